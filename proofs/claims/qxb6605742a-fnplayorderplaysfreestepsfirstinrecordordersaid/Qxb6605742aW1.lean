/- Walks: the small functions of the laws. -/
import Derived.Test.Qxb6605742aMem
import Derived.Test.Qxb6605742aTy
set_option linter.unusedVariables false
set_option linter.unusedSimpArgs false
set_option maxRecDepth 100000
namespace Go.Sx
open Go.Po
def SameT (s t : Stp) : Prop := t.kind = s.kind ∧ t.prev = s.prev ∧ t.send = s.send ∧ t.cl = s.cl
def earl (P : List Int) (j at_ : Int) : Bool := decide (j < 0) || (decide (0 ≤ P.getD j.toNat 0) && decide (P.getD j.toNat 0 < at_))
def unpl (P : List Int) (j : Int) : Bool := decide (0 ≤ j) && decide (P.getD j.toNat 0 < 0)
theorem getD_int (P : List Int) (i : Nat) (h : i < P.length) : P.getD i 0 = P[i] := by simp [List.getD, h]
theorem vs_take_succ (vs : List Value) (j : Nat) (rest : List Value) (v : Value) (hv : vs[j]? = some v) : splice (vs.take j ++ rest) (0 + j * 1) [v] = vs.take (j + 1) ++ rest.drop 1 := by
  obtain ⟨hj, rfl⟩ := List.getElem?_eq_some_iff.1 hv
  rw [splice_mid _ _ _ _ (by simp; omega), List.take_succ_eq_append_getElem hj]
  rfl
def hdrT (s : Stp) : Value := .slice s.ca s.cl.length s.ccap
theorem js_lt {s : Stp} {n : Int} (h1 : s.prev < n) (h2 : s.send < n) (h3 : ∀ i (h : i < s.cl.length), s.cl[i] < n) : ∀ j ∈ s.js, j < n := by
  intro j hj
  unfold Stp.js at hj
  rcases List.mem_cons.1 hj with rfl | hj
  · exact h1
  · rcases List.mem_cons.1 hj with rfl | hj
    · exact h2
    · obtain ⟨i, hi, rfl⟩ := List.mem_iff_getElem.1 hj
      exact h3 i hi
theorem rest4 (rest : List Value) (n : Nat) (h : rest.length = (n + 1) * 4) : ∃ r0 r1 r2 r3 r', rest = r0 :: r1 :: r2 :: r3 :: r' ∧ r'.length = n * 4 := by
  match rest, h with
  | r0 :: r1 :: r2 :: r3 :: r', h => exact ⟨r0, r1, r2, r3, r', rfl, by simp at h; omega⟩
  | [], h => simp at h
  | [_], h => simp at h; omega
  | [_, _], h => simp at h; omega
  | [_, _, _], h => simp at h; omega
end Go.Sx
namespace Go.Proofs.Try
open Go.Sx Go.Po

theorem bytesTop (l : List Stp) (a : Option Addr) (cap : Nat) (w : World) (hI : StpsAt w a l) :
    CallsV Try.prog 8 #[.slice a l.length cap] w fun v w' => (∃ z, v = .bool z) ∧ w' = w := by
  refine calls_intro (args := [_]) Try.func8 rfl Try.ntmps8 rfl ?_
  refine WC.seq ?_
  refine WC.region ?_
  refine WL.step (ok_assign rfl) rfl ?_
  refine WL.nil ?_
  refine WX.thenC ?_
  refine WC.seq ?_
  refine WC.region ?_
  refine WL.step (ok_assign rfl) rfl ?_
  refine WL.nil ?_
  refine WX.thenC ?_
  refine WC.seq ?_
  refine WC.seq ?_
  refine WC.region ?_
  refine WL.step (ok_move rfl) rfl ?_
  refine WL.step (ok_lenSlice rfl Try.underlying22) rfl ?_
  refine WL.step (ok_gtr rfl rfl) rfl ?_
  refine WL.nil ?_
  refine WX.thenC ?_
  refine WC.cond rfl (fun hc7 => ?_) (fun hc7 => ?_)
  ·
    refine WC.seq ?_
    refine WC.region ?_
    refine WL.step (ok_assign rfl) rfl ?_
    refine WL.nil ?_
    refine WX.thenC ?_
    refine WC.ret ?_
    refine WX.thenR ?_
    exact WX.ret1 rfl rfl ⟨_, rfl, ⟨_, rfl⟩, rfl⟩
  ·
    have hn : l.length ≤ 1048576 := by have := of_decide_eq_false hc7; omega
    refine WC.skip ?_
    refine WX.thenC ?_
    refine WC.seq ?_
    refine WC.region ?_
    refine WL.step (ok_move rfl) rfl ?_
    refine WL.step (ok_move rfl) rfl ?_
    refine WL.step (ok_lenSlice rfl Try.underlying22) rfl ?_
    refine WL.step (ok_add ((l.length : Nat) : Int) rfl rfl (by omega) (by omega) (by omega)) rfl ?_
    refine WL.step (ok_assign rfl) rfl ?_
    refine WL.nil ?_
    refine WX.thenC ?_
    refine WC.seq ?_
    refine WC.seq ?_
    refine WC.region ?_
    refine WL.step (ok_move rfl) rfl ?_
    refine WL.step (ok_gtr rfl rfl) rfl ?_
    refine WL.nil ?_
    refine WX.thenC ?_
    refine WC.cond rfl (fun hc13 => ?_) (fun hc13 => ?_)
    ·
      refine WC.seq ?_
      refine WC.region ?_
      refine WL.step (ok_assign rfl) rfl ?_
      refine WL.nil ?_
      refine WX.thenC ?_
      refine WC.ret ?_
      refine WX.thenR ?_
      exact WX.ret1 rfl rfl ⟨_, rfl, ⟨_, rfl⟩, rfl⟩
    ·
      refine WC.skip ?_
      refine WX.thenC ?_
      refine WC.seq ?_
      refine WC.seq ?_
      refine WC.region ?_
      refine WL.step (ok_assign rfl) rfl ?_
      refine WL.nil ?_
      refine WX.thenC ?_
      refine WC.block ?_
      refine WC.loop (fun x : Nat × Nat => [(0, .slice a l.length cap), (3, .int .i64 (x.1 : Nat)), (4, .int .i64 (x.2 : Nat))])
        (fun x w' => x.2 ≤ l.length ∧ x.1 ≤ 1048576 ∧ w' = w) (fun x => l.length - x.2) (l.length, 0) (by repeat (first | exact trivial | refine ⟨rfl, ?_⟩)) ?_ ?_
      · exact ⟨by show 0 ≤ _; omega, by show l.length ≤ _; omega, rfl⟩
      rintro ⟨z, k⟩ w1 ⟨hkn, hz, hw1⟩
      dsimp only at hkn hz
      dsimp only
      have hw1 := hw1.symm
      subst hw1
      refine WC.seq ?_
      refine WC.seq ?_
      refine WC.region ?_
      refine WL.step (ok_move rfl) rfl ?_
      refine WL.step (ok_move rfl) rfl ?_
      refine WL.step (ok_lenSlice rfl Try.underlying22) rfl ?_
      refine WL.step (ok_lss rfl rfl) rfl ?_
      refine WL.nil ?_
      refine WX.thenC ?_
      refine WC.cond rfl (fun hc17 => ?_) (fun hc17 => ?_)
      ·
        have hlt : k < l.length := by have := of_decide_eq_true hc17; omega
        obtain ⟨b, off, rfl, hr⟩ := hI.at hlt
        refine WC.skip ?_
        refine WX.thenC ?_
        refine WC.seq ?_
        refine WC.block ?_
        refine WC.seq ?_
        refine WC.seq ?_
        refine WC.region ?_
        refine WL.step (ok_move rfl) rfl ?_
        refine WL.step (ok_move rfl) rfl ?_
        refine WL.step (ok_indexS _ rfl rfl rfl (by omega) Try.underlying22 sz31) rfl ?_
        refine WL.step (ok_field rfl fld31_3) rfl ?_
        refine WL.step (ok_load rfl one25 (rs_cit hr k hlt)) rfl ?_
        refine WL.step (ok_lenSlice rfl Try.underlying25) rfl ?_
        refine WL.step (ok_gtr rfl rfl) rfl ?_
        refine WL.nil ?_
        refine WX.thenC ?_
        refine WC.cond rfl (fun hc26 => ?_) (fun hc26 => ?_)
        ·
          refine WC.seq ?_
          refine WC.region ?_
          refine WL.step (ok_assign rfl) rfl ?_
          refine WL.nil ?_
          refine WX.thenC ?_
          refine WC.ret ?_
          refine WX.thenR ?_
          refine WX.blockR ?_
          refine WX.thenR ?_
          refine WX.thenR ?_
          refine WX.blockR ?_
          refine WX.thenR ?_
          exact WX.ret1 rfl rfl ⟨_, rfl, ⟨_, rfl⟩, rfl⟩
        ·
          have hcl : l[k].cl.length ≤ 1048576 := by have := of_decide_eq_false hc26; omega
          refine WC.skip ?_
          refine WX.thenC ?_
          refine WC.seq ?_
          refine WC.region ?_
          refine WL.step (ok_move rfl) rfl ?_
          refine WL.step (ok_move rfl) rfl ?_
          refine WL.step (ok_move rfl) rfl ?_
          refine WL.step (ok_indexS _ rfl rfl rfl (by omega) Try.underlying22 sz31) rfl ?_
          refine WL.step (ok_field rfl fld31_3) rfl ?_
          refine WL.step (ok_load rfl one25 (rs_cit hr k hlt)) rfl ?_
          refine WL.step (ok_lenSlice rfl Try.underlying25) rfl ?_
          refine WL.step (ok_add ((z + l[k].cl.length : Nat) : Int) rfl rfl (by omega) (by omega) (by omega)) rfl ?_
          refine WL.step (ok_assign rfl) rfl ?_
          refine WL.nil ?_
          refine WX.thenC ?_
          refine WC.seq ?_
          refine WC.region ?_
          refine WL.step (ok_move rfl) rfl ?_
          refine WL.step (ok_gtr rfl rfl) rfl ?_
          refine WL.nil ?_
          refine WX.thenC ?_
          refine WC.cond rfl (fun hc36 => ?_) (fun hc36 => ?_)
          ·
            refine WC.seq ?_
            refine WC.region ?_
            refine WL.step (ok_assign rfl) rfl ?_
            refine WL.nil ?_
            refine WX.thenC ?_
            refine WC.ret ?_
            refine WX.blockR ?_
            refine WX.thenR ?_
            refine WX.thenR ?_
            refine WX.blockR ?_
            refine WX.thenR ?_
            exact WX.ret1 rfl rfl ⟨_, rfl, ⟨_, rfl⟩, rfl⟩
          ·
            have hzz : z + l[k].cl.length ≤ 1048576 := by have := of_decide_eq_false hc36; omega
            refine WC.skip ?_
            refine WX.blockN ?_
            refine WX.thenC ?_
            refine WC.region ?_
            refine WL.step (ok_move rfl) rfl ?_
            refine WL.step (ok_add ((k + 1 : Nat) : Int) rfl rfl (by omega) (by omega) (by omega)) rfl ?_
            refine WL.step (ok_assign rfl) rfl ?_
            refine WL.nil ?_
            exact WX.again (z + l[k].cl.length, k + 1) (by repeat (first | exact trivial | refine ⟨rfl, ?_⟩)) ⟨by show k + 1 ≤ _; omega, by show z + l[k].cl.length ≤ _; omega, rfl⟩ (by show _ - (k + 1) < _ - k; omega)
      ·
        refine WC.exit ?_
        refine WX.thenE ?_
        refine WX.thenE ?_
        refine WX.blockHit ?_
        refine WX.thenC ?_
        refine WC.seq ?_
        refine WC.region ?_
        refine WL.step (ok_assign rfl) rfl ?_
        refine WL.nil ?_
        refine WX.thenC ?_
        refine WC.ret ?_
        exact WX.ret1 rfl rfl ⟨_, rfl, ⟨_, rfl⟩, rfl⟩
theorem bytesFree (l : List Stp) (a : Option Addr) (cap : Nat) (w : World) (hI : StpsAt w a l) :
    CallsV Try.prog 16 #[.slice a l.length cap] w fun v w' => (∃ z, v = .bool z) ∧ w' = w := by
  refine calls_intro (args := [_]) Try.func16 rfl Try.ntmps16 rfl ?_
  refine WC.seq ?_
  refine WC.region ?_
  refine WL.step (ok_assign rfl) rfl ?_
  refine WL.nil ?_
  refine WX.thenC ?_
  refine WC.seq ?_
  refine WC.region ?_
  refine WL.step (ok_assign rfl) rfl ?_
  refine WL.nil ?_
  refine WX.thenC ?_
  refine WC.seq ?_
  refine WC.seq ?_
  refine WC.region ?_
  refine WL.step (ok_move rfl) rfl ?_
  refine WL.step (ok_lenSlice rfl Try.underlying22) rfl ?_
  refine WL.step (ok_gtr rfl rfl) rfl ?_
  refine WL.nil ?_
  refine WX.thenC ?_
  refine WC.cond rfl (fun hc7 => ?_) (fun hc7 => ?_)
  ·
    refine WC.seq ?_
    refine WC.region ?_
    refine WL.step (ok_assign rfl) rfl ?_
    refine WL.nil ?_
    refine WX.thenC ?_
    refine WC.ret ?_
    refine WX.thenR ?_
    exact WX.ret1 rfl rfl ⟨_, rfl, ⟨_, rfl⟩, rfl⟩
  ·
    have hn : l.length ≤ 1048576 := by have := of_decide_eq_false hc7; omega
    refine WC.skip ?_
    refine WX.thenC ?_
    refine WC.seq ?_
    refine WC.region ?_
    refine WL.step (ok_move rfl) rfl ?_
    refine WL.step (ok_move rfl) rfl ?_
    refine WL.step (ok_lenSlice rfl Try.underlying22) rfl ?_
    refine WL.step (ok_add ((l.length : Nat) : Int) rfl rfl (by omega) (by omega) (by omega)) rfl ?_
    refine WL.step (ok_assign rfl) rfl ?_
    refine WL.nil ?_
    refine WX.thenC ?_
    refine WC.seq ?_
    refine WC.seq ?_
    refine WC.region ?_
    refine WL.step (ok_move rfl) rfl ?_
    refine WL.step (ok_gtr rfl rfl) rfl ?_
    refine WL.nil ?_
    refine WX.thenC ?_
    refine WC.cond rfl (fun hc13 => ?_) (fun hc13 => ?_)
    ·
      refine WC.seq ?_
      refine WC.region ?_
      refine WL.step (ok_assign rfl) rfl ?_
      refine WL.nil ?_
      refine WX.thenC ?_
      refine WC.ret ?_
      refine WX.thenR ?_
      exact WX.ret1 rfl rfl ⟨_, rfl, ⟨_, rfl⟩, rfl⟩
    ·
      refine WC.skip ?_
      refine WX.thenC ?_
      refine WC.seq ?_
      refine WC.seq ?_
      refine WC.region ?_
      refine WL.step (ok_assign rfl) rfl ?_
      refine WL.nil ?_
      refine WX.thenC ?_
      refine WC.block ?_
      refine WC.loop (fun x : Nat × Nat => [(0, .slice a l.length cap), (3, .int .i64 (x.1 : Nat)), (4, .int .i64 (x.2 : Nat))])
        (fun x w' => x.2 ≤ l.length ∧ x.1 ≤ 1048576 ∧ w' = w) (fun x => l.length - x.2) (l.length, 0) (by repeat (first | exact trivial | refine ⟨rfl, ?_⟩)) ?_ ?_
      · exact ⟨by show 0 ≤ _; omega, by show l.length ≤ _; omega, rfl⟩
      rintro ⟨z, k⟩ w1 ⟨hkn, hz, hw1⟩
      dsimp only at hkn hz
      dsimp only
      have hw1 := hw1.symm
      subst hw1
      refine WC.seq ?_
      refine WC.seq ?_
      refine WC.region ?_
      refine WL.step (ok_move rfl) rfl ?_
      refine WL.step (ok_move rfl) rfl ?_
      refine WL.step (ok_lenSlice rfl Try.underlying22) rfl ?_
      refine WL.step (ok_lss rfl rfl) rfl ?_
      refine WL.nil ?_
      refine WX.thenC ?_
      refine WC.cond rfl (fun hc17 => ?_) (fun hc17 => ?_)
      ·
        have hlt : k < l.length := by have := of_decide_eq_true hc17; omega
        obtain ⟨b, off, rfl, hr⟩ := hI.at hlt
        refine WC.skip ?_
        refine WX.thenC ?_
        refine WC.seq ?_
        refine WC.block ?_
        refine WC.seq ?_
        refine WC.seq ?_
        refine WC.region ?_
        refine WL.step (ok_move rfl) rfl ?_
        refine WL.step (ok_move rfl) rfl ?_
        refine WL.step (ok_indexS _ rfl rfl rfl (by omega) Try.underlying22 sz31) rfl ?_
        refine WL.step (ok_field rfl fld31_3) rfl ?_
        refine WL.step (ok_load rfl one25 (rs_cit hr k hlt)) rfl ?_
        refine WL.step (ok_lenSlice rfl Try.underlying25) rfl ?_
        refine WL.step (ok_gtr rfl rfl) rfl ?_
        refine WL.nil ?_
        refine WX.thenC ?_
        refine WC.cond rfl (fun hc26 => ?_) (fun hc26 => ?_)
        ·
          refine WC.seq ?_
          refine WC.region ?_
          refine WL.step (ok_assign rfl) rfl ?_
          refine WL.nil ?_
          refine WX.thenC ?_
          refine WC.ret ?_
          refine WX.thenR ?_
          refine WX.blockR ?_
          refine WX.thenR ?_
          refine WX.thenR ?_
          refine WX.blockR ?_
          refine WX.thenR ?_
          exact WX.ret1 rfl rfl ⟨_, rfl, ⟨_, rfl⟩, rfl⟩
        ·
          have hcl : l[k].cl.length ≤ 1048576 := by have := of_decide_eq_false hc26; omega
          refine WC.skip ?_
          refine WX.thenC ?_
          refine WC.seq ?_
          refine WC.region ?_
          refine WL.step (ok_move rfl) rfl ?_
          refine WL.step (ok_move rfl) rfl ?_
          refine WL.step (ok_move rfl) rfl ?_
          refine WL.step (ok_indexS _ rfl rfl rfl (by omega) Try.underlying22 sz31) rfl ?_
          refine WL.step (ok_field rfl fld31_3) rfl ?_
          refine WL.step (ok_load rfl one25 (rs_cit hr k hlt)) rfl ?_
          refine WL.step (ok_lenSlice rfl Try.underlying25) rfl ?_
          refine WL.step (ok_add ((z + l[k].cl.length : Nat) : Int) rfl rfl (by omega) (by omega) (by omega)) rfl ?_
          refine WL.step (ok_assign rfl) rfl ?_
          refine WL.nil ?_
          refine WX.thenC ?_
          refine WC.seq ?_
          refine WC.region ?_
          refine WL.step (ok_move rfl) rfl ?_
          refine WL.step (ok_gtr rfl rfl) rfl ?_
          refine WL.nil ?_
          refine WX.thenC ?_
          refine WC.cond rfl (fun hc36 => ?_) (fun hc36 => ?_)
          ·
            refine WC.seq ?_
            refine WC.region ?_
            refine WL.step (ok_assign rfl) rfl ?_
            refine WL.nil ?_
            refine WX.thenC ?_
            refine WC.ret ?_
            refine WX.blockR ?_
            refine WX.thenR ?_
            refine WX.thenR ?_
            refine WX.blockR ?_
            refine WX.thenR ?_
            exact WX.ret1 rfl rfl ⟨_, rfl, ⟨_, rfl⟩, rfl⟩
          ·
            have hzz : z + l[k].cl.length ≤ 1048576 := by have := of_decide_eq_false hc36; omega
            refine WC.skip ?_
            refine WX.blockN ?_
            refine WX.thenC ?_
            refine WC.region ?_
            refine WL.step (ok_move rfl) rfl ?_
            refine WL.step (ok_add ((k + 1 : Nat) : Int) rfl rfl (by omega) (by omega) (by omega)) rfl ?_
            refine WL.step (ok_assign rfl) rfl ?_
            refine WL.nil ?_
            exact WX.again (z + l[k].cl.length, k + 1) (by repeat (first | exact trivial | refine ⟨rfl, ?_⟩)) ⟨by show k + 1 ≤ _; omega, by show z + l[k].cl.length ≤ _; omega, rfl⟩ (by show _ - (k + 1) < _ - k; omega)
      ·
        refine WC.exit ?_
        refine WX.thenE ?_
        refine WX.thenE ?_
        refine WX.blockHit ?_
        refine WX.thenC ?_
        refine WC.seq ?_
        refine WC.region ?_
        refine WL.step (ok_assign rfl) rfl ?_
        refine WL.nil ?_
        refine WX.thenC ?_
        refine WC.ret ?_
        exact WX.ret1 rfl rfl ⟨_, rfl, ⟨_, rfl⟩, rfl⟩
theorem tooBig (l : List Stp) (a : Option Addr) (cap : Nat) (w : World) (hI : StpsAt w a l) :
    CallsV Try.prog 9 #[.slice a l.length cap] w fun v w' => (∃ z, v = .bool z ∧ (z = false → l.length ≤ 65536 ∧ 48 * l.length + 8 * cites l ≤ 1048576)) ∧ w' = w := by
  refine calls_intro (args := [_]) Try.func9 rfl Try.ntmps9 rfl ?_
  refine WC.seq ?_
  refine WC.region ?_
  refine WL.step (ok_assign rfl) rfl ?_
  refine WL.nil ?_
  refine WX.thenC ?_
  refine WC.seq ?_
  refine WC.seq ?_
  refine WC.region ?_
  refine WL.step (ok_move rfl) rfl ?_
  refine WL.step (ok_lenSlice rfl Try.underlying22) rfl ?_
  refine WL.step (ok_gtr rfl rfl) rfl ?_
  refine WL.nil ?_
  refine WX.thenC ?_
  refine WC.cond rfl (fun hc7 => ?_) (fun hc7 => ?_)
  ·
    refine WC.seq ?_
    refine WC.region ?_
    refine WL.step (ok_assign rfl) rfl ?_
    refine WL.nil ?_
    refine WX.thenC ?_
    refine WC.ret ?_
    refine WX.thenR ?_
    exact WX.ret1 rfl rfl ⟨_, rfl, ⟨true, rfl, fun h => by cases h⟩, rfl⟩
  ·
    have hn : l.length ≤ 65536 := by have := of_decide_eq_false hc7; omega
    refine WC.skip ?_
    refine WX.thenC ?_
    refine WC.seq ?_
    refine WC.region ?_
    refine WL.step (ok_assign rfl) rfl ?_
    refine WL.nil ?_
    refine WX.thenC ?_
    refine WC.seq ?_
    refine WC.seq ?_
    refine WC.region ?_
    refine WL.step (ok_assign rfl) rfl ?_
    refine WL.nil ?_
    refine WX.thenC ?_
    refine WC.block ?_
    refine WC.loop (fun k : Nat => [(0, .slice a l.length cap), (3, .int .i64 ((48 * k + 8 * cites (l.take k) : Nat) : Int)), (4, .int .i64 (k : Nat))])
      (fun k w' => k ≤ l.length ∧ 48 * k + 8 * cites (l.take k) ≤ 1048576 ∧ w' = w) (fun k => l.length - k) 0 (by repeat (first | exact trivial | refine ⟨rfl, ?_⟩)) ?_ ?_
    · exact ⟨by omega, by simp [cites], rfl⟩
    rintro k w1 ⟨hkn, hz, hw1⟩
    have hw1 := hw1.symm
    subst hw1
    refine WC.seq ?_
    refine WC.seq ?_
    refine WC.region ?_
    refine WL.step (ok_move rfl) rfl ?_
    refine WL.step (ok_move rfl) rfl ?_
    refine WL.step (ok_lenSlice rfl Try.underlying22) rfl ?_
    refine WL.step (ok_lss rfl rfl) rfl ?_
    refine WL.nil ?_
    refine WX.thenC ?_
    refine WC.cond rfl (fun hc11 => ?_) (fun hc11 => ?_)
    ·
      have hlt : k < l.length := by have := of_decide_eq_true hc11; omega
      obtain ⟨b, off, rfl, hr⟩ := hI.at hlt
      have hcs := cites_take_succ l k hlt
      refine WC.skip ?_
      refine WX.thenC ?_
      refine WC.seq ?_
      refine WC.block ?_
      refine WC.seq ?_
      refine WC.seq ?_
      refine WC.region ?_
      refine WL.step (ok_move rfl) rfl ?_
      refine WL.step (ok_move rfl) rfl ?_
      refine WL.step (ok_indexS _ rfl rfl rfl (by omega) Try.underlying22 sz31) rfl ?_
      refine WL.step (ok_field rfl fld31_3) rfl ?_
      refine WL.step (ok_load rfl one25 (rs_cit hr k hlt)) rfl ?_
      refine WL.step (ok_lenSlice rfl Try.underlying25) rfl ?_
      refine WL.step (ok_gtr rfl rfl) rfl ?_
      refine WL.nil ?_
      refine WX.thenC ?_
      refine WC.cond rfl (fun hc20 => ?_) (fun hc20 => ?_)
      ·
        refine WC.seq ?_
        refine WC.region ?_
        refine WL.step (ok_assign rfl) rfl ?_
        refine WL.nil ?_
        refine WX.thenC ?_
        refine WC.ret ?_
        refine WX.thenR ?_
        refine WX.blockR ?_
        refine WX.thenR ?_
        refine WX.thenR ?_
        refine WX.blockR ?_
        refine WX.thenR ?_
        exact WX.ret1 rfl rfl ⟨_, rfl, ⟨true, rfl, fun h => by cases h⟩, rfl⟩
      ·
        have hcl : l[k].cl.length ≤ 65536 := by have := of_decide_eq_false hc20; omega
        refine WC.skip ?_
        refine WX.thenC ?_
        refine WC.seq ?_
        refine WC.region ?_
        refine WL.step (ok_move rfl) rfl ?_
        refine WL.step (ok_move rfl) rfl ?_
        refine WL.step (ok_move rfl) rfl ?_
        refine WL.step (ok_indexS _ rfl rfl rfl (by omega) Try.underlying22 sz31) rfl ?_
        refine WL.step (ok_field rfl fld31_3) rfl ?_
        refine WL.step (ok_load rfl one25 (rs_cit hr k hlt)) rfl ?_
        refine WL.step (ok_lenSlice rfl Try.underlying25) rfl ?_
        refine WL.step (ok_mul ((8 * l[k].cl.length : Nat) : Int) rfl rfl (by omega) (by omega) (by omega)) rfl ?_
        refine WL.step (ok_add ((48 + 8 * l[k].cl.length : Nat) : Int) rfl rfl (by omega) (by omega) (by omega)) rfl ?_
        refine WL.step (ok_add ((48 * (k + 1) + 8 * cites (l.take (k + 1)) : Nat) : Int) rfl rfl (by omega) (by omega) (by omega)) rfl ?_
        refine WL.step (ok_assign rfl) rfl ?_
        refine WL.nil ?_
        refine WX.thenC ?_
        refine WC.seq ?_
        refine WC.region ?_
        refine WL.step (ok_move rfl) rfl ?_
        refine WL.step (ok_gtr rfl rfl) rfl ?_
        refine WL.nil ?_
        refine WX.thenC ?_
        refine WC.cond rfl (fun hc32 => ?_) (fun hc32 => ?_)
        ·
          refine WC.seq ?_
          refine WC.region ?_
          refine WL.step (ok_assign rfl) rfl ?_
          refine WL.nil ?_
          refine WX.thenC ?_
          refine WC.ret ?_
          refine WX.blockR ?_
          refine WX.thenR ?_
          refine WX.thenR ?_
          refine WX.blockR ?_
          refine WX.thenR ?_
          exact WX.ret1 rfl rfl ⟨_, rfl, ⟨true, rfl, fun h => by cases h⟩, rfl⟩
        ·
          have hz2 : 48 * (k + 1) + 8 * cites (l.take (k + 1)) ≤ 1048576 := by have := of_decide_eq_false hc32; omega
          refine WC.skip ?_
          refine WX.blockN ?_
          refine WX.thenC ?_
          refine WC.region ?_
          refine WL.step (ok_move rfl) rfl ?_
          refine WL.step (ok_add ((k + 1 : Nat) : Int) rfl rfl (by omega) (by omega) (by omega)) rfl ?_
          refine WL.step (ok_assign rfl) rfl ?_
          refine WL.nil ?_
          exact WX.again (k + 1) (by repeat (first | exact trivial | refine ⟨rfl, ?_⟩)) ⟨by omega, hz2, rfl⟩ (by omega)
    ·
      have hge : k = l.length := by have := of_decide_eq_false hc11; omega
      refine WC.exit ?_
      refine WX.thenE ?_
      refine WX.thenE ?_
      refine WX.blockHit ?_
      refine WX.thenC ?_
      refine WC.seq ?_
      refine WC.region ?_
      refine WL.step (ok_assign rfl) rfl ?_
      refine WL.nil ?_
      refine WX.thenC ?_
      refine WC.ret ?_
      exact WX.ret1 rfl rfl ⟨_, rfl, ⟨false, rfl, fun _ => ⟨hn, by rw [hge, List.take_length] at hz; exact hz⟩⟩, rfl⟩
theorem linksIn (l : List Stp) (a : Option Addr) (cap : Nat) (hn : l.length ≤ 65536) (hsm : ∀ s ∈ l, s.cl.length ≤ 1048576) (w : World) (hI : StpsAt w a l) :
    CallsV Try.prog 10 #[.slice a l.length cap] w fun v w' => (∃ z, v = .bool z ∧ (z = true → ∀ s ∈ l, ∀ j ∈ s.js, j < l.length)) ∧ w' = w := by
  refine calls_intro (args := [_]) Try.func10 rfl Try.ntmps10 rfl ?_
  refine WC.seq ?_
  refine WC.region ?_
  refine WL.step (ok_assign rfl) rfl ?_
  refine WL.nil ?_
  refine WX.thenC ?_
  refine WC.seq ?_
  refine WC.region ?_
  refine WL.step (ok_move rfl) rfl ?_
  refine WL.step (ok_lenSlice rfl Try.underlying22) rfl ?_
  refine WL.step (ok_assign rfl) rfl ?_
  refine WL.nil ?_
  refine WX.thenC ?_
  refine WC.seq ?_
  refine WC.seq ?_
  refine WC.region ?_
  refine WL.step (ok_assign rfl) rfl ?_
  refine WL.nil ?_
  refine WX.thenC ?_
  refine WC.block ?_
  refine WC.loop (fun k : Nat => [(0, .slice a l.length cap), (3, .int .i64 (l.length : Nat)), (4, .int .i64 (k : Nat))])
    (fun k w' => k ≤ l.length ∧ (∀ i (h : i < l.length), i < k → ∀ j ∈ l[i].js, j < l.length) ∧ w' = w) (fun k => l.length - k) 0 (by repeat (first | exact trivial | refine ⟨rfl, ?_⟩)) ?_ ?_
  · exact ⟨by omega, fun i h h2 => by omega, rfl⟩
  rintro k w1 ⟨hkn, hall, hw1⟩
  have hw1 := hw1.symm
  subst hw1
  refine WC.seq ?_
  refine WC.seq ?_
  refine WC.region ?_
  refine WL.step (ok_move rfl) rfl ?_
  refine WL.step (ok_move rfl) rfl ?_
  refine WL.step (ok_lss rfl rfl) rfl ?_
  refine WL.nil ?_
  refine WX.thenC ?_
  refine WC.cond rfl (fun hc11 => ?_) (fun hc11 => ?_)
  ·
    have hlt : k < l.length := by have := of_decide_eq_true hc11; omega
    obtain ⟨b, off, rfl, hr⟩ := hI.at hlt
    have hsk := hsm _ (List.getElem_mem hlt)
    refine WC.skip ?_
    refine WX.thenC ?_
    refine WC.seq ?_
    refine WC.block ?_
    refine WC.seq ?_
    refine WC.seq ?_
    refine WC.region ?_
    refine WL.step (ok_move rfl) rfl ?_
    refine WL.step (ok_move rfl) rfl ?_
    refine WL.step (ok_indexS _ rfl rfl rfl (by omega) Try.underlying22 sz31) rfl ?_
    refine WL.step (ok_field rfl fld31_1) rfl ?_
    refine WL.step (ok_load rfl one3 (rs_prev hr k hlt)) rfl ?_
    refine WL.step (ok_move rfl) rfl ?_
    refine WL.step (ok_geq rfl rfl) rfl ?_
    refine WL.step (ok_move rfl) rfl ?_
    refine WL.splitB 21 rfl (fun hb21 => ?_) (fun hb21 => ?_)
    ·
      refine WL.off rfl rfl rfl rfl ?_
      refine WL.off rfl rfl rfl rfl ?_
      refine WL.off rfl rfl rfl rfl ?_
      refine WL.off rfl rfl rfl rfl ?_
      refine WL.off rfl rfl rfl rfl ?_
      refine WL.off rfl rfl rfl rfl ?_
      refine WL.off rfl rfl rfl rfl ?_
      refine WL.step (ok_pickT rfl rfl) rfl ?_
      refine WL.nil ?_
      refine WX.thenC ?_
      refine WC.condTb rfl rfl ?_
      refine WC.seq ?_
      refine WC.region ?_
      refine WL.step (ok_assign rfl) rfl ?_
      refine WL.nil ?_
      refine WX.thenC ?_
      refine WC.ret ?_
      refine WX.thenR ?_
      refine WX.blockR ?_
      refine WX.thenR ?_
      refine WX.thenR ?_
      refine WX.blockR ?_
      refine WX.thenR ?_
      exact WX.ret1 rfl rfl ⟨_, rfl, ⟨false, rfl, fun h => by cases h⟩, rfl⟩
    ·
      have hp1 : l[k].prev < l.length := by have := of_decide_eq_false hb21; omega
      refine WL.on rfl rfl ?_
      refine WL.step (ok_move rfl) rfl ?_
      refine WL.on rfl rfl ?_
      refine WL.step (ok_move rfl) rfl ?_
      refine WL.on rfl rfl ?_
      refine WL.step (ok_indexS _ rfl rfl rfl (by omega) Try.underlying22 sz31) rfl ?_
      refine WL.on rfl rfl ?_
      refine WL.step (ok_field rfl fld31_2) rfl ?_
      refine WL.on rfl rfl ?_
      refine WL.step (ok_load rfl one3 (rs_send hr k hlt)) rfl ?_
      refine WL.on rfl rfl ?_
      refine WL.step (ok_move rfl) rfl ?_
      refine WL.on rfl rfl ?_
      refine WL.step (ok_geq rfl rfl) rfl ?_
      refine WL.step (ok_pickF rfl rfl) rfl ?_
      refine WL.nil ?_
      refine WX.thenC ?_
      refine WC.cond rfl (fun hc29 => ?_) (fun hc29 => ?_)
      ·
        refine WC.seq ?_
        refine WC.region ?_
        refine WL.step (ok_assign rfl) rfl ?_
        refine WL.nil ?_
        refine WX.thenC ?_
        refine WC.ret ?_
        refine WX.thenR ?_
        refine WX.blockR ?_
        refine WX.thenR ?_
        refine WX.thenR ?_
        refine WX.blockR ?_
        refine WX.thenR ?_
        exact WX.ret1 rfl rfl ⟨_, rfl, ⟨false, rfl, fun h => by cases h⟩, rfl⟩
      ·
        have hp2 : l[k].send < l.length := by have := of_decide_eq_false hc29; omega
        refine WC.skip ?_
        refine WX.thenC ?_
        refine WC.seq ?_
        refine WC.region ?_
        refine WL.step (ok_move rfl) rfl ?_
        refine WL.step (ok_move rfl) rfl ?_
        refine WL.step (ok_indexS _ rfl rfl rfl (by omega) Try.underlying22 sz31) rfl ?_
        refine WL.step (ok_field rfl fld31_3) rfl ?_
        refine WL.step (ok_load rfl one25 (rs_cit hr k hlt)) rfl ?_
        obtain ⟨ca, hca⟩ : ∃ x, x = l[k].ca := ⟨_, rfl⟩
        have hIk := hI.val _ (List.getElem_mem hlt)
        rw [← hca] at hIk
        refine WL.rew 34 (.slice ca l[k].cl.length l[k].ccap) rfl (by rw [hca]) ?_
        refine WL.step (ok_assign rfl) rfl ?_
        refine WL.nil ?_
        refine WX.thenC ?_
        refine WC.seq ?_
        refine WC.region ?_
        refine WL.step (ok_assign rfl) rfl ?_
        refine WL.nil ?_
        refine WX.thenC ?_
        refine WC.block ?_
        refine WC.loop (fun c : Nat => [(0, .slice (some ⟨b, off, none⟩) l.length cap), (3, .int .i64 (l.length : Nat)), (4, .int .i64 (k : Nat)), (5, .slice ca l[k].cl.length l[k].ccap), (6, .int .i64 (c : Nat))])
          (fun c w' => c ≤ l[k].cl.length ∧ (∀ i (h : i < l[k].cl.length), i < c → l[k].cl[i] < l.length) ∧ w' = w) (fun c => l[k].cl.length - c) 0 (by repeat (first | exact trivial | refine ⟨rfl, ?_⟩)) ?_ ?_
        · exact ⟨by omega, fun i h h2 => by omega, rfl⟩
        rintro c w2 ⟨hcn, hcc, hw2⟩
        have hw2 := hw2.symm
        subst hw2
        refine WC.seq ?_
        refine WC.seq ?_
        refine WC.region ?_
        refine WL.step (ok_move rfl) rfl ?_
        refine WL.step (ok_move rfl) rfl ?_
        refine WL.step (ok_lenSlice rfl Try.underlying25) rfl ?_
        refine WL.step (ok_lss rfl rfl) rfl ?_
        refine WL.nil ?_
        refine WX.thenC ?_
        refine WC.cond rfl (fun hc38 => ?_) (fun hc38 => ?_)
        ·
          have hlt2 : c < l[k].cl.length := by have := of_decide_eq_true hc38; omega
          obtain ⟨b2, off2, rfl, hr2⟩ := hIk.at hlt2
          refine WC.skip ?_
          refine WX.thenC ?_
          refine WC.seq ?_
          refine WC.block ?_
          refine WC.seq ?_
          refine WC.region ?_
          refine WL.step (ok_move rfl) rfl ?_
          refine WL.step (ok_move rfl) rfl ?_
          refine WL.step (ok_indexS _ rfl rfl rfl (by omega) Try.underlying25 sz3) rfl ?_
          refine WL.step (ok_load rfl one3 (rd_int hr2 c hlt2)) rfl ?_
          refine WL.step (ok_move rfl) rfl ?_
          refine WL.step (ok_geq rfl rfl) rfl ?_
          refine WL.nil ?_
          refine WX.thenC ?_
          refine WC.cond rfl (fun hc46 => ?_) (fun hc46 => ?_)
          ·
            refine WC.seq ?_
            refine WC.region ?_
            refine WL.step (ok_assign rfl) rfl ?_
            refine WL.nil ?_
            refine WX.thenC ?_
            refine WC.ret ?_
            refine WX.blockR ?_
            refine WX.thenR ?_
            refine WX.thenR ?_
            refine WX.blockR ?_
            refine WX.blockR ?_
            refine WX.thenR ?_
            refine WX.thenR ?_
            refine WX.blockR ?_
            refine WX.thenR ?_
            exact WX.ret1 rfl rfl ⟨_, rfl, ⟨false, rfl, fun h => by cases h⟩, rfl⟩
          ·
            have hcl : l[k].cl[c] < l.length := by have := of_decide_eq_false hc46; omega
            refine WC.skip ?_
            refine WX.blockN ?_
            refine WX.thenC ?_
            refine WC.region ?_
            refine WL.step (ok_move rfl) rfl ?_
            refine WL.step (ok_add ((c + 1 : Nat) : Int) rfl rfl (by omega) (by omega) (by omega)) rfl ?_
            refine WL.step (ok_assign rfl) rfl ?_
            refine WL.nil ?_
            refine WX.again (c + 1) (by repeat (first | exact trivial | refine ⟨rfl, ?_⟩)) ⟨by omega, ?_, rfl⟩ (by omega)
            intro i h hik
            by_cases e : i = c
            · subst e; exact hcl
            · exact hcc i h (by omega)
        ·
          have hge2 : c = l[k].cl.length := by have := of_decide_eq_false hc38; omega
          refine WC.exit ?_
          refine WX.thenE ?_
          refine WX.thenE ?_
          refine WX.blockHit ?_
          refine WX.blockN ?_
          refine WX.thenC ?_
          refine WC.region ?_
          refine WL.step (ok_move rfl) rfl ?_
          refine WL.step (ok_add ((k + 1 : Nat) : Int) rfl rfl (by omega) (by omega) (by omega)) rfl ?_
          refine WL.step (ok_assign rfl) rfl ?_
          refine WL.nil ?_
          refine WX.again (k + 1) (by repeat (first | exact trivial | refine ⟨rfl, ?_⟩)) ⟨by omega, ?_, rfl⟩ (by omega)
          intro i h hik
          by_cases e : i = k
          · subst e
            exact js_lt hp1 hp2 (fun m hm => hcc m hm (by omega))
          · exact hall i h (by omega)
  ·
    have hge : k = l.length := by have := of_decide_eq_false hc11; omega
    refine WC.exit ?_
    refine WX.thenE ?_
    refine WX.thenE ?_
    refine WX.blockHit ?_
    refine WX.thenC ?_
    refine WC.seq ?_
    refine WC.region ?_
    refine WL.step (ok_assign rfl) rfl ?_
    refine WL.nil ?_
    refine WX.thenC ?_
    refine WC.ret ?_
    exact WX.ret1 rfl rfl ⟨_, rfl, ⟨true, rfl, fun _ s hs => by obtain ⟨i, hi, rfl⟩ := List.mem_iff_getElem.1 hs; exact hall i hi (by omega)⟩, rfl⟩
theorem copyInts (l : List Int) (a : Option Addr) (cap : Nat) (hn : l.length ≤ 1048576) (w : World) (hI : IntsAt w a l) :
    CallsV Try.prog 28 #[.slice a l.length cap] w fun v w' => ∃ a' cap', v = .slice a' l.length cap' ∧ IntsAt w' a' l ∧ (∀ b off, a' = some ⟨b, off, none⟩ → w.heap.size ≤ b) ∧ Ext w w' := by
  refine calls_intro (args := [_]) Try.func28 rfl Try.ntmps28 rfl ?_
  refine WC.seq ?_
  refine WC.region ?_
  refine WL.step (ok_assign rfl) rfl ?_
  refine WL.nil ?_
  refine WX.thenC ?_
  refine WC.seq ?_
  refine WC.seq ?_
  refine WC.region ?_
  refine WL.step (ok_move rfl) rfl ?_
  refine WL.step (ok_eqlNil rfl Try.underlying25) rfl ?_
  refine WL.nil ?_
  refine WX.thenC ?_
  refine WC.cond rfl (fun hc6 => ?_) (fun hc6 => ?_)
  ·
    have hl0 : a = none := by simpa using hc6
    have hnil : l = [] := Classical.byContradiction fun hne => by obtain ⟨b, off, h1, _⟩ := hI hne; rw [hl0] at h1; cases h1
    refine WC.seq ?_
    refine WC.region ?_
    refine WL.step (ok_assign rfl) rfl ?_
    refine WL.nil ?_
    refine WX.thenC ?_
    refine WC.ret ?_
    refine WX.thenR ?_
    exact WX.ret1 rfl rfl ⟨_, rfl, none, 0, by rw [hnil]; rfl, fun hne => absurd hnil hne, (by intro b off h; cases h), Kp.refl _ _⟩
  ·
    refine WC.skip ?_
    refine WX.thenC ?_
    refine WC.seq ?_
    refine WC.region ?_
    refine WL.step (ok_move rfl) rfl ?_
    refine WL.step (ok_lenSlice rfl Try.underlying25) rfl ?_
    refine WL.make (l.length) elt25 rfl (by omega) (by omega) rfl ?_
    intro b9 w9 c9 hb9 ho9 hl9 hz9 hk9 hs9
    refine WL.step (ok_assign rfl) rfl ?_
    refine WL.nil ?_
    refine WX.thenC ?_
    refine WC.seq ?_
    refine WC.seq ?_
    refine WC.region ?_
    refine WL.step (ok_assign rfl) rfl ?_
    refine WL.nil ?_
    refine WX.thenC ?_
    refine WC.block ?_
    refine WC.loop (fun k : Nat => [(0, .slice a l.length cap), (3, .slice (some ⟨b9, 0, none⟩) l.length l.length), (4, .int .i64 (k : Nat))])
      (fun k w' => k ≤ l.length ∧ Ext w w' ∧ ∃ rest, Own w' b9 3 (ic (l.take k) ++ rest) ∧ rest.length = l.length - k) (fun k => l.length - k) 0 (by repeat (first | exact trivial | refine ⟨rfl, ?_⟩)) ?_ ?_
    · exact ⟨by omega, hk9, c9, by simpa [ic] using ho9, by simpa using hl9⟩
    rintro k w1 ⟨hkn, hE, rest, hO, hrest⟩
    refine WC.seq ?_
    refine WC.seq ?_
    refine WC.region ?_
    refine WL.step (ok_move rfl) rfl ?_
    refine WL.step (ok_move rfl) rfl ?_
    refine WL.step (ok_lenSlice rfl Try.underlying25) rfl ?_
    refine WL.step (ok_lss rfl rfl) rfl ?_
    refine WL.nil ?_
    refine WX.thenC ?_
    refine WC.cond rfl (fun hc13 => ?_) (fun hc13 => ?_)
    ·
      have hlt : k < l.length := by have := of_decide_eq_true hc13; omega
      obtain ⟨b, off, rfl, hr⟩ := (hI.ext hE).at hlt
      refine WC.skip ?_
      refine WX.thenC ?_
      refine WC.seq ?_
      refine WC.block ?_
      refine WC.region ?_
      refine WL.step (ok_move rfl) rfl ?_
      refine WL.step (ok_move rfl) rfl ?_
      refine WL.step (ok_move rfl) rfl ?_
      refine WL.step (ok_move rfl) rfl ?_
      refine WL.step (ok_indexS _ rfl rfl rfl (by omega) Try.underlying25 sz3) rfl ?_
      refine WL.step (ok_load rfl one3 (rd_int hr k hlt)) rfl ?_
      refine WL.step (ok_indexS _ rfl rfl rfl (by omega) Try.underlying25 sz3) rfl ?_
      refine WL.store rfl rfl sz3 (hO) (by simp [Value.cells]) (by simp [Value.cells]; omega) (by simp [Value.cells, Value.oneCell']) ?_
      intro wr7 hor7 hkr7 hsr7
      have hor7' : Own wr7 b9 3 (ic (l.take (k + 1)) ++ rest.drop 1) := by
        have h0 := hor7
        simp only [Value.cells] at h0
        rw [← ic_take_succ l k hlt rest _ rfl]
        exact h0
      refine WL.nil ?_
      refine WX.blockN ?_
      refine WX.thenC ?_
      refine WC.region ?_
      refine WL.step (ok_move rfl) rfl ?_
      refine WL.step (ok_add ((k + 1 : Nat) : Int) rfl rfl (by omega) (by omega) (by omega)) rfl ?_
      refine WL.step (ok_assign rfl) rfl ?_
      refine WL.nil ?_
      exact WX.again (k + 1) (by repeat (first | exact trivial | refine ⟨rfl, ?_⟩)) ⟨by omega, hE.over hkr7 (fun i hi e => by omega), rest.drop 1, hor7', by simp [hrest]; omega⟩ (by omega)
    ·
      have hge : k = l.length := by have := of_decide_eq_false hc13; omega
      refine WC.exit ?_
      refine WX.thenE ?_
      refine WX.thenE ?_
      refine WX.blockHit ?_
      refine WX.thenC ?_
      refine WC.seq ?_
      refine WC.region ?_
      refine WL.step (ok_move rfl) rfl ?_
      refine WL.step (ok_assign rfl) rfl ?_
      refine WL.nil ?_
      refine WX.thenC ?_
      refine WC.ret ?_
      exact WX.ret1 rfl rfl ⟨_, rfl, some ⟨b9, 0, none⟩, l.length, rfl, fun _ => ⟨b9, 0, rfl, fun j v hv => by rw [hge, List.take_length] at hO; exact hO.rd0.append_left j v hv⟩, (by intro b off h; cases h; omega), hE⟩
set_option maxHeartbeats 1000000 in
theorem copySteps (l : List Stp) (a : Option Addr) (cap : Nat) (hn : l.length ≤ 65536) (hsm : ∀ s ∈ l, s.cl.length ≤ 1048576) (w : World) (hI : StpsAt w a l) :
    CallsV Try.prog 11 #[.slice a l.length cap] w fun v w' => ∃ a' cap' l', v = .slice a' l.length cap' ∧ l'.length = l.length ∧ (∀ i (h : i < l.length) (h' : i < l'.length), SameT l[i] l'[i]) ∧ StpsAt w' a' l' ∧ Ext w w' := by
  refine calls_intro (args := [_]) Try.func11 rfl Try.ntmps11 rfl ?_
  refine WC.seq ?_
  refine WC.region ?_
  refine WL.step (ok_assign rfl) rfl ?_
  refine WL.nil ?_
  refine WX.thenC ?_
  refine WC.seq ?_
  refine WC.seq ?_
  refine WC.region ?_
  refine WL.step (ok_move rfl) rfl ?_
  refine WL.step (ok_eqlNil rfl Try.underlying22) rfl ?_
  refine WL.nil ?_
  refine WX.thenC ?_
  refine WC.cond rfl (fun hc6 => ?_) (fun hc6 => ?_)
  ·
    have hl0 : a = none := by simpa using hc6
    have hnil : l = [] := Classical.byContradiction fun hne => by obtain ⟨b, off, h1, _⟩ := hI.row hne; rw [hl0] at h1; cases h1
    refine WC.seq ?_
    refine WC.region ?_
    refine WL.step (ok_assign rfl) rfl ?_
    refine WL.nil ?_
    refine WX.thenC ?_
    refine WC.ret ?_
    refine WX.thenR ?_
    exact WX.ret1 rfl rfl ⟨_, rfl, none, 0, [], by rw [hnil]; rfl, by rw [hnil], (fun i h h' => by simp at h'), ⟨fun hne => absurd rfl hne, fun s hs => by simp at hs⟩, Kp.refl _ _⟩
  ·
    refine WC.skip ?_
    refine WX.thenC ?_
    refine WC.seq ?_
    refine WC.region ?_
    refine WL.step (ok_move rfl) rfl ?_
    refine WL.step (ok_lenSlice rfl Try.underlying22) rfl ?_
    refine WL.make (l.length) elt22 rfl (by omega) (by omega) rfl ?_
    intro b9 w9 c9 hb9 ho9 hl9 hz9 hk9 hs9
    refine WL.step (ok_assign rfl) rfl ?_
    refine WL.nil ?_
    refine WX.thenC ?_
    refine WC.seq ?_
    refine WC.seq ?_
    refine WC.region ?_
    refine WL.step (ok_assign rfl) rfl ?_
    refine WL.nil ?_
    refine WX.thenC ?_
    refine WC.block ?_
    refine WC.loop (fun k : Nat => [(0, .slice a l.length cap), (3, .slice (some ⟨b9, 0, none⟩) l.length l.length), (4, .int .i64 (k : Nat))])
      (fun k w' => k ≤ l.length ∧ Ext w w' ∧ ∃ l2 rest, Own w' b9 31 (encT l2 ++ rest) ∧ rest.length = (l.length - k) * 4 ∧ l2.length = k ∧ (∀ i (h : i < l.length) (h' : i < l2.length), SameT l[i] l2[i]) ∧ (∀ s ∈ l2, IntsAt w' s.ca s.cl ∧ (∀ b off, s.ca = some ⟨b, off, none⟩ → b ≠ b9))) (fun k => l.length - k) 0 (by repeat (first | exact trivial | refine ⟨rfl, ?_⟩)) ?_ ?_
    · exact ⟨by omega, hk9, [], c9, by simpa [encT] using ho9, by simpa using hl9, rfl, fun i h h' => (by simp at h'), fun o h => (by simp at h)⟩
    rintro k w1 ⟨hkn, hE, l2, rest, hO, hrest, hl2, hsame, hval⟩
    refine WC.seq ?_
    refine WC.seq ?_
    refine WC.region ?_
    refine WL.step (ok_move rfl) rfl ?_
    refine WL.step (ok_move rfl) rfl ?_
    refine WL.step (ok_lenSlice rfl Try.underlying22) rfl ?_
    refine WL.step (ok_lss rfl rfl) rfl ?_
    refine WL.nil ?_
    refine WX.thenC ?_
    refine WC.cond rfl (fun hc13 => ?_) (fun hc13 => ?_)
    ·
      have hlt : k < l.length := by have := of_decide_eq_true hc13; omega
      obtain ⟨b, off, rfl, hr0⟩ := hI.at hlt
      obtain ⟨r0, r1, r2, r3, r4, rfl, hr4⟩ := rest4 rest (l.length - (k + 1)) (by rw [hrest]; omega)
      refine WC.skip ?_
      refine WX.thenC ?_
      refine WC.seq ?_
      refine WC.block ?_
      refine WC.seq ?_
      refine WC.region ?_
      refine WL.step (ok_move rfl) rfl ?_
      refine WL.step (ok_move rfl) rfl ?_
      refine WL.step (ok_move rfl) rfl ?_
      refine WL.step (ok_move rfl) rfl ?_
      refine WL.step (ok_indexS _ rfl rfl rfl (by omega) Try.underlying22 sz31) rfl ?_
      refine WL.step (ok_field rfl fld31_0) rfl ?_
      refine WL.step (ok_load rfl one3 (rs_kind (hr0.kp hE (fun f => f)) k hlt)) rfl ?_
      refine WL.step (ok_indexS _ rfl rfl rfl (by omega) Try.underlying22 sz31) rfl ?_
      refine WL.step (ok_field rfl fld31_0) rfl ?_
      refine WL.store rfl rfl sz3 (hO) (by simp [Value.cells]) (by simp [Value.cells, encT_length, hl2] <;> omega) (by simp [Value.cells, Value.oneCell']) ?_
      intro wr7 hor7 hkr7 hsr7
      have hO7 : Own wr7 b9 31 (encT l2 ++ (.int .i64 l[k].kind :: r1 :: r2 :: r3 :: r4)) := by
        have h0 := hor7
        simp only [Value.cells] at h0
        rw [splice_at _ _ _ 0 _ (by rw [encT_length, hl2]; omega) (by simp)] at h0
        exact h0
      have hE7 : Ext w wr7 := hE.over hkr7 (fun i hi e => by omega)
      refine WL.nil ?_
      refine WX.thenC ?_
      refine WC.seq ?_
      refine WC.region ?_
      refine WL.step (ok_move rfl) rfl ?_
      refine WL.step (ok_move rfl) rfl ?_
      refine WL.step (ok_move rfl) rfl ?_
      refine WL.step (ok_move rfl) rfl ?_
      refine WL.step (ok_indexS _ rfl rfl rfl (by omega) Try.underlying22 sz31) rfl ?_
      refine WL.step (ok_field rfl fld31_1) rfl ?_
      refine WL.step (ok_load rfl one3 (rs_prev (hr0.kp hE7 (fun f => f)) k hlt)) rfl ?_
      refine WL.step (ok_indexS _ rfl rfl rfl (by omega) Try.underlying22 sz31) rfl ?_
      refine WL.step (ok_field rfl fld31_1) rfl ?_
      refine WL.store rfl rfl sz3 (hO7) (by simp [Value.cells]) (by simp [Value.cells, encT_length, hl2] <;> omega) (by simp [Value.cells, Value.oneCell']) ?_
      intro wr8 hor8 hkr8 hsr8
      have hO8 : Own wr8 b9 31 (encT l2 ++ (.int .i64 l[k].kind :: .int .i64 l[k].prev :: r2 :: r3 :: r4)) := by
        have h0 := hor8
        simp only [Value.cells] at h0
        rw [splice_at _ _ _ 1 _ (by rw [encT_length, hl2]; omega) (by simp)] at h0
        exact h0
      have hE8 : Ext w wr8 := hE7.over hkr8 (fun i hi e => by omega)
      refine WL.nil ?_
      refine WX.thenC ?_
      refine WC.seq ?_
      refine WC.region ?_
      refine WL.step (ok_move rfl) rfl ?_
      refine WL.step (ok_move rfl) rfl ?_
      refine WL.step (ok_move rfl) rfl ?_
      refine WL.step (ok_move rfl) rfl ?_
      refine WL.step (ok_indexS _ rfl rfl rfl (by omega) Try.underlying22 sz31) rfl ?_
      refine WL.step (ok_field rfl fld31_2) rfl ?_
      refine WL.step (ok_load rfl one3 (rs_send (hr0.kp hE8 (fun f => f)) k hlt)) rfl ?_
      refine WL.step (ok_indexS _ rfl rfl rfl (by omega) Try.underlying22 sz31) rfl ?_
      refine WL.step (ok_field rfl fld31_2) rfl ?_
      refine WL.store rfl rfl sz3 (hO8) (by simp [Value.cells]) (by simp [Value.cells, encT_length, hl2] <;> omega) (by simp [Value.cells, Value.oneCell']) ?_
      intro wr9 hor9 hkr9 hsr9
      have hO9 : Own wr9 b9 31 (encT l2 ++ (.int .i64 l[k].kind :: .int .i64 l[k].prev :: .int .i64 l[k].send :: r3 :: r4)) := by
        have h0 := hor9
        simp only [Value.cells] at h0
        rw [splice_at _ _ _ 2 _ (by rw [encT_length, hl2]; omega) (by simp)] at h0
        exact h0
      have hE9 : Ext w wr9 := hE8.over hkr9 (fun i hi e => by omega)
      refine WL.nil ?_
      refine WX.thenC ?_
      refine WC.region ?_
      refine WL.step (ok_move rfl) rfl ?_
      refine WL.step (ok_move rfl) rfl ?_
      refine WL.step (ok_move rfl) rfl ?_
      refine WL.step (ok_move rfl) rfl ?_
      refine WL.step (ok_indexS _ rfl rfl rfl (by omega) Try.underlying22 sz31) rfl ?_
      refine WL.step (ok_field rfl fld31_3) rfl ?_
      refine WL.step (ok_load rfl one25 (rs_cit (hr0.kp hE9 (fun f => f)) k hlt)) rfl ?_
      refine WL.call (ok_callF rfl isfn28) rfl (copyInts l[k].cl l[k].ca l[k].ccap (hsm _ (List.getElem_mem hlt)) _ ((hI.val _ (List.getElem_mem hlt)).ext hE9)) ?_
      rintro v w50 ⟨va', vcap', rfl, hB50, hf50, hE50⟩
      refine WL.step (ok_indexS _ rfl rfl rfl (by omega) Try.underlying22 sz31) rfl ?_
      refine WL.step (ok_field rfl fld31_3) rfl ?_
      refine WL.store rfl rfl sz25 (hO9.ext hE50) (by simp [Value.cells]) (by simp [Value.cells, encT_length, hl2] <;> omega) (by simp [Value.cells, Value.oneCell']) ?_
      intro wr10 hor10 hkr10 hsr10
      obtain ⟨t', ht'⟩ : ∃ t' : Stp, t' = ⟨l[k].kind, l[k].prev, l[k].send, va', l[k].cl, vcap'⟩ := ⟨_, rfl⟩
      have hO10 : Own wr10 b9 31 (encT (l2 ++ [t']) ++ r4) := by
        have h0 := hor10
        simp only [Value.cells] at h0
        rw [splice_at _ _ _ 3 _ (by rw [encT_length, hl2]; omega) (by simp)] at h0
        have e : encT (l2 ++ [t']) = encT l2 ++ t'.cells := by simp [encT]
        rw [e, ht', List.append_assoc]
        exact h0
      have hE10 : Ext w wr10 := (hE9.trans hE50).over hkr10 (fun i hi e => by omega)
      have hb9l : b9 < w1.heap.size := hO.lt
      have hs19 : w1.heap.size ≤ wr9.heap.size := Nat.le_trans hkr7.size (Nat.le_trans hkr8.size hkr9.size)
      refine WL.nil ?_
      refine WX.blockN ?_
      refine WX.thenC ?_
      refine WC.region ?_
      refine WL.step (ok_move rfl) rfl ?_
      refine WL.step (ok_add ((k + 1 : Nat) : Int) rfl rfl (by omega) (by omega) (by omega)) rfl ?_
      refine WL.step (ok_assign rfl) rfl ?_
      refine WL.nil ?_
      refine WX.again (k + 1) (by repeat (first | exact trivial | refine ⟨rfl, ?_⟩)) ⟨by omega, hE10, l2 ++ [t'], r4, hO10, hr4, by simp [hl2], ?_, ?_⟩ (by omega)
      · intro i h h'
        rw [List.getElem_append]
        split
        · exact hsame i h _
        · have : i = k := by simp at h'; omega
          subst this
          simp only [List.getElem_singleton, ht']
          exact ⟨rfl, rfl, rfl, rfl⟩
      · intro s h
        rcases List.mem_append.1 h with h | h
        · obtain ⟨q1, q2⟩ := hval s h
          exact ⟨((((q1.kp hkr7 q2).kp hkr8 q2).kp hkr9 q2).ext hE50).kp hkr10 q2, q2⟩
        · simp at h
          subst h
          rw [ht']
          have q2 : ∀ b off, va' = some ⟨b, off, none⟩ → b ≠ b9 := fun b off e => by have := hf50 b off e; omega
          exact ⟨hB50.kp hkr10 q2, q2⟩
    ·
      have hge : k = l.length := by have := of_decide_eq_false hc13; omega
      refine WC.exit ?_
      refine WX.thenE ?_
      refine WX.thenE ?_
      refine WX.blockHit ?_
      refine WX.thenC ?_
      refine WC.seq ?_
      refine WC.region ?_
      refine WL.step (ok_move rfl) rfl ?_
      refine WL.step (ok_assign rfl) rfl ?_
      refine WL.nil ?_
      refine WX.thenC ?_
      refine WC.ret ?_
      exact WX.ret1 rfl rfl ⟨_, rfl, some ⟨b9, 0, none⟩, l.length, l2, rfl, by rw [hl2, hge], hsame, ⟨fun _ => ⟨b9, 0, rfl, hO.rd0.append_left⟩, fun s hs => (hval s hs).1⟩, hE⟩
set_option maxHeartbeats 1000000 in
theorem splitSteps (l : List Stp) (a : Option Addr) (cap : Nat) (hn : l.length ≤ 65536) (w : World) (hI : StpsAt w a l) :
    CallsV Try.prog 12 #[.slice a l.length cap] w fun v w' => ∃ bk bp bs bc, v = .tuple #[.slice (some ⟨bk, 0, none⟩) l.length l.length, .slice (some ⟨bp, 0, none⟩) l.length l.length, .slice (some ⟨bs, 0, none⟩) l.length l.length, .slice (some ⟨bc, 0, none⟩) l.length l.length] ∧
      Rd w' bk 0 (ic (l.map Stp.kind)) ∧ Rd w' bp 0 (ic (l.map Stp.prev)) ∧ Rd w' bs 0 (ic (l.map Stp.send)) ∧ Rd w' bc 0 (l.map hdrT) ∧ Ext w w' := by
  refine calls_intro (args := [_]) Try.func12 rfl Try.ntmps12 rfl ?_
  refine WC.seq ?_
  refine WC.region ?_
  refine WL.step (ok_assign rfl) rfl ?_
  refine WL.step (ok_assign rfl) rfl ?_
  refine WL.step (ok_assign rfl) rfl ?_
  refine WL.step (ok_assign rfl) rfl ?_
  refine WL.nil ?_
  refine WX.thenC ?_
  refine WC.seq ?_
  refine WC.region ?_
  refine WL.step (ok_move rfl) rfl ?_
  refine WL.step (ok_lenSlice rfl Try.underlying22) rfl ?_
  refine WL.step (ok_assign rfl) rfl ?_
  refine WL.nil ?_
  refine WX.thenC ?_
  refine WC.seq ?_
  refine WC.region ?_
  refine WL.step (ok_move rfl) rfl ?_
  refine WL.make (l.length) elt25 rfl (by omega) (by omega) rfl ?_
  intro b15 w15 c15 hb15 ho15 hl15 hz15 hk15 hs15
  refine WL.step (ok_assign rfl) rfl ?_
  refine WL.nil ?_
  refine WX.thenC ?_
  refine WC.seq ?_
  refine WC.region ?_
  refine WL.step (ok_move rfl) rfl ?_
  refine WL.make (l.length) elt25 rfl (by omega) (by omega) rfl ?_
  intro b17 w17 c17 hb17 ho17 hl17 hz17 hk17 hs17
  refine WL.step (ok_assign rfl) rfl ?_
  refine WL.nil ?_
  refine WX.thenC ?_
  refine WC.seq ?_
  refine WC.region ?_
  refine WL.step (ok_move rfl) rfl ?_
  refine WL.make (l.length) elt25 rfl (by omega) (by omega) rfl ?_
  intro b19 w19 c19 hb19 ho19 hl19 hz19 hk19 hs19
  refine WL.step (ok_assign rfl) rfl ?_
  refine WL.nil ?_
  refine WX.thenC ?_
  refine WC.seq ?_
  refine WC.region ?_
  refine WL.step (ok_move rfl) rfl ?_
  refine WL.make (l.length) elt26 rfl (by omega) (by omega) rfl ?_
  intro b21 w21 c21 hb21 ho21 hl21 hz21 hk21 hs21
  refine WL.step (ok_assign rfl) rfl ?_
  refine WL.nil ?_
  refine WX.thenC ?_
  refine WC.seq ?_
  refine WC.seq ?_
  refine WC.region ?_
  refine WL.step (ok_assign rfl) rfl ?_
  refine WL.nil ?_
  refine WX.thenC ?_
  refine WC.block ?_
  refine WC.loop (fun k : Nat => [(0, .slice a l.length cap), (6, .int .i64 (l.length : Nat)), (7, .slice (some ⟨b15, 0, none⟩) l.length l.length), (8, .slice (some ⟨b17, 0, none⟩) l.length l.length), (9, .slice (some ⟨b19, 0, none⟩) l.length l.length), (10, .slice (some ⟨b21, 0, none⟩) l.length l.length), (11, .int .i64 (k : Nat))])
    (fun k w' => k ≤ l.length ∧ Ext w w' ∧ ∃ r15 r17 r19 r21, (Own w' b15 3 ((ic (l.map Stp.kind)).take k ++ r15) ∧ r15.length = l.length - k) ∧ (Own w' b17 3 ((ic (l.map Stp.prev)).take k ++ r17) ∧ r17.length = l.length - k) ∧ (Own w' b19 3 ((ic (l.map Stp.send)).take k ++ r19) ∧ r19.length = l.length - k) ∧ (Own w' b21 25 ((l.map hdrT).take k ++ r21) ∧ r21.length = l.length - k)) (fun k => l.length - k) 0 (by repeat (first | exact trivial | refine ⟨rfl, ?_⟩)) ?_ ?_
  · exact ⟨by omega, ((hk15.trans hk17).trans hk19).trans hk21, c15, c17, c19, c21, ⟨((ho15.ext hk17).ext hk19).ext hk21, by omega⟩, ⟨(ho17.ext hk19).ext hk21, by omega⟩, ⟨ho19.ext hk21, by omega⟩, ⟨ho21, by omega⟩⟩
  rintro k w1 ⟨hkn, hE, r15, r17, r19, r21, ⟨h15, hl15'⟩, ⟨h17, hl17'⟩, ⟨h19, hl19'⟩, ⟨h21, hl21'⟩⟩
  refine WC.seq ?_
  refine WC.seq ?_
  refine WC.region ?_
  refine WL.step (ok_move rfl) rfl ?_
  refine WL.step (ok_move rfl) rfl ?_
  refine WL.step (ok_lss rfl rfl) rfl ?_
  refine WL.nil ?_
  refine WX.thenC ?_
  refine WC.cond rfl (fun hc24 => ?_) (fun hc24 => ?_)
  ·
    have hlt : k < l.length := by have := of_decide_eq_true hc24; omega
    obtain ⟨b, off, rfl, hr0⟩ := hI.at hlt
    refine WC.skip ?_
    refine WX.thenC ?_
    refine WC.seq ?_
    refine WC.block ?_
    refine WC.seq ?_
    refine WC.region ?_
    refine WL.step (ok_move rfl) rfl ?_
    refine WL.step (ok_move rfl) rfl ?_
    refine WL.step (ok_move rfl) rfl ?_
    refine WL.step (ok_move rfl) rfl ?_
    refine WL.step (ok_indexS _ rfl rfl rfl (by omega) Try.underlying22 sz31) rfl ?_
    refine WL.step (ok_field rfl fld31_0) rfl ?_
    refine WL.step (ok_load rfl one3 (rs_kind (hr0.kp hE (fun f => f)) k hlt)) rfl ?_
    refine WL.step (ok_indexS _ rfl rfl rfl (by omega) Try.underlying25 sz3) rfl ?_
    refine WL.store rfl rfl sz3 (h15) (by simp [Value.cells]) (by simp [Value.cells]; omega) (by simp [Value.cells, Value.oneCell']) ?_
    intro wr9 hor9 hkr9 hsr9
    have hq9 : Own wr9 b15 3 ((ic (l.map Stp.kind)).take (k + 1) ++ r15.drop 1) := by
      have h0 := hor9
      simp only [Value.cells] at h0
      rw [← vs_take_succ (ic (l.map Stp.kind)) k r15 (.int .i64 l[k].kind) (by simp [ic, hlt])]
      exact h0
    have h17b := hkr9.own h17 (fun e => by omega)
    have h19b := hkr9.own h19 (fun e => by omega)
    have h21b := hkr9.own h21 (fun e => by omega)
    have hE9 : Ext w wr9 := hE.over hkr9 (fun i hi e => by omega)
    refine WL.nil ?_
    refine WX.thenC ?_
    refine WC.seq ?_
    refine WC.region ?_
    refine WL.step (ok_move rfl) rfl ?_
    refine WL.step (ok_move rfl) rfl ?_
    refine WL.step (ok_move rfl) rfl ?_
    refine WL.step (ok_move rfl) rfl ?_
    refine WL.step (ok_indexS _ rfl rfl rfl (by omega) Try.underlying22 sz31) rfl ?_
    refine WL.step (ok_field rfl fld31_1) rfl ?_
    refine WL.step (ok_load rfl one3 (rs_prev (hr0.kp hE9 (fun f => f)) k hlt)) rfl ?_
    refine WL.step (ok_indexS _ rfl rfl rfl (by omega) Try.underlying25 sz3) rfl ?_
    refine WL.store rfl rfl sz3 (h17b) (by simp [Value.cells]) (by simp [Value.cells]; omega) (by simp [Value.cells, Value.oneCell']) ?_
    intro wr10 hor10 hkr10 hsr10
    have hq10 : Own wr10 b17 3 ((ic (l.map Stp.prev)).take (k + 1) ++ r17.drop 1) := by
      have h0 := hor10
      simp only [Value.cells] at h0
      rw [← vs_take_succ (ic (l.map Stp.prev)) k r17 (.int .i64 l[k].prev) (by simp [ic, hlt])]
      exact h0
    have h15c := hkr10.own hq9 (fun e => by omega)
    have h19c := hkr10.own h19b (fun e => by omega)
    have h21c := hkr10.own h21b (fun e => by omega)
    have hE10 : Ext w wr10 := hE9.over hkr10 (fun i hi e => by omega)
    refine WL.nil ?_
    refine WX.thenC ?_
    refine WC.seq ?_
    refine WC.region ?_
    refine WL.step (ok_move rfl) rfl ?_
    refine WL.step (ok_move rfl) rfl ?_
    refine WL.step (ok_move rfl) rfl ?_
    refine WL.step (ok_move rfl) rfl ?_
    refine WL.step (ok_indexS _ rfl rfl rfl (by omega) Try.underlying22 sz31) rfl ?_
    refine WL.step (ok_field rfl fld31_2) rfl ?_
    refine WL.step (ok_load rfl one3 (rs_send (hr0.kp hE10 (fun f => f)) k hlt)) rfl ?_
    refine WL.step (ok_indexS _ rfl rfl rfl (by omega) Try.underlying25 sz3) rfl ?_
    refine WL.store rfl rfl sz3 (h19c) (by simp [Value.cells]) (by simp [Value.cells]; omega) (by simp [Value.cells, Value.oneCell']) ?_
    intro wr11 hor11 hkr11 hsr11
    have hq11 : Own wr11 b19 3 ((ic (l.map Stp.send)).take (k + 1) ++ r19.drop 1) := by
      have h0 := hor11
      simp only [Value.cells] at h0
      rw [← vs_take_succ (ic (l.map Stp.send)) k r19 (.int .i64 l[k].send) (by simp [ic, hlt])]
      exact h0
    have h15d := hkr11.own h15c (fun e => by omega)
    have h17d := hkr11.own hq10 (fun e => by omega)
    have h21d := hkr11.own h21c (fun e => by omega)
    have hE11 : Ext w wr11 := hE10.over hkr11 (fun i hi e => by omega)
    refine WL.nil ?_
    refine WX.thenC ?_
    refine WC.region ?_
    refine WL.step (ok_move rfl) rfl ?_
    refine WL.step (ok_move rfl) rfl ?_
    refine WL.step (ok_move rfl) rfl ?_
    refine WL.step (ok_move rfl) rfl ?_
    refine WL.step (ok_indexS _ rfl rfl rfl (by omega) Try.underlying22 sz31) rfl ?_
    refine WL.step (ok_field rfl fld31_3) rfl ?_
    refine WL.step (ok_load rfl one25 (rs_cit (hr0.kp hE11 (fun f => f)) k hlt)) rfl ?_
    refine WL.step (ok_indexS _ rfl rfl rfl (by omega) Try.underlying26 sz25) rfl ?_
    refine WL.store rfl rfl sz25 (h21d) (by simp [Value.cells]) (by simp [Value.cells]; omega) (by simp [Value.cells, Value.oneCell']) ?_
    intro wr12 hor12 hkr12 hsr12
    have hq12 : Own wr12 b21 25 ((l.map hdrT).take (k + 1) ++ r21.drop 1) := by
      have h0 := hor12
      simp only [Value.cells] at h0
      rw [← vs_take_succ (l.map hdrT) k r21 (.slice l[k].ca l[k].cl.length l[k].ccap) (by simp [hdrT, hlt])]
      exact h0
    have h15e := hkr12.own h15d (fun e => by omega)
    have h17e := hkr12.own h17d (fun e => by omega)
    have h19e := hkr12.own hq11 (fun e => by omega)
    have hE12 : Ext w wr12 := hE11.over hkr12 (fun i hi e => by omega)
    refine WL.nil ?_
    refine WX.blockN ?_
    refine WX.thenC ?_
    refine WC.region ?_
    refine WL.step (ok_move rfl) rfl ?_
    refine WL.step (ok_add ((k + 1 : Nat) : Int) rfl rfl (by omega) (by omega) (by omega)) rfl ?_
    refine WL.step (ok_assign rfl) rfl ?_
    refine WL.nil ?_
    exact WX.again (k + 1) (by repeat (first | exact trivial | refine ⟨rfl, ?_⟩)) ⟨by omega, hE12, r15.drop 1, r17.drop 1, r19.drop 1, r21.drop 1, ⟨h15e, by simp [hl15']; omega⟩, ⟨h17e, by simp [hl17']; omega⟩, ⟨h19e, by simp [hl19']; omega⟩, ⟨hq12, by simp [hl21']; omega⟩⟩ (by omega)
  ·
    have hge : k = l.length := by have := of_decide_eq_false hc24; omega
    refine WC.exit ?_
    refine WX.thenE ?_
    refine WX.thenE ?_
    refine WX.blockHit ?_
    refine WX.thenC ?_
    refine WC.seq ?_
    refine WC.region ?_
    refine WL.step (ok_move rfl) rfl ?_
    refine WL.step (ok_move rfl) rfl ?_
    refine WL.step (ok_move rfl) rfl ?_
    refine WL.step (ok_move rfl) rfl ?_
    refine WL.step (ok_assign rfl) rfl ?_
    refine WL.step (ok_assign rfl) rfl ?_
    refine WL.step (ok_assign rfl) rfl ?_
    refine WL.step (ok_assign rfl) rfl ?_
    refine WL.nil ?_
    refine WX.thenC ?_
    refine WC.ret ?_
    exact WX.ret4 rfl rfl rfl rfl rfl ⟨_, rfl, b15, b17, b19, b21, rfl, by rw [List.take_of_length_le (by simp; omega)] at h15; exact h15.rd0.append_left, by rw [List.take_of_length_le (by simp; omega)] at h17; exact h17.rd0.append_left, by rw [List.take_of_length_le (by simp; omega)] at h19; exact h19.rd0.append_left, by rw [List.take_of_length_le (by simp; omega)] at h21; exact h21.rd0.append_left, hE⟩
theorem earlier (P : List Int) (j at_ : Int) (hj : j < P.length) (pb cap : Nat) (w : World) (hr : Rd w pb 0 (ic P)) :
    CallsV Try.prog 14 #[.int .i64 j, .slice (some ⟨pb, 0, none⟩) P.length cap, .int .i64 at_] w fun v w' => v = .bool (earl P j at_) ∧ w' = w := by
  refine calls_intro (args := [_, _, _]) Try.func14 rfl Try.ntmps14 rfl ?_
  refine WC.seq ?_
  refine WC.region ?_
  refine WL.step (ok_assign rfl) rfl ?_
  refine WL.nil ?_
  refine WX.thenC ?_
  refine WC.seq ?_
  refine WC.seq ?_
  refine WC.region ?_
  refine WL.step (ok_move rfl) rfl ?_
  refine WL.step (ok_lss rfl rfl) rfl ?_
  refine WL.nil ?_
  refine WX.thenC ?_
  refine WC.cond rfl (fun hc8 => ?_) (fun hc8 => ?_)
  ·
    have hneg : j < 0 := of_decide_eq_true hc8
    refine WC.seq ?_
    refine WC.region ?_
    refine WL.step (ok_assign rfl) rfl ?_
    refine WL.nil ?_
    refine WX.thenC ?_
    refine WC.ret ?_
    refine WX.thenR ?_
    exact WX.ret1 rfl rfl ⟨_, rfl, by unfold earl; rw [decide_eq_true hneg, Bool.true_or], rfl⟩
  ·
    have hpos : ¬ j < 0 := of_decide_eq_false hc8
    have hjl : j.toNat < P.length := by omega
    have hg := getD_int P j.toNat hjl
    refine WC.skip ?_
    refine WX.thenC ?_
    refine WC.seq ?_
    refine WC.region ?_
    refine WL.step (ok_move rfl) rfl ?_
    refine WL.step (ok_move rfl) rfl ?_
    refine WL.step (ok_indexS j.toNat rfl rfl (by omega) (by omega) Try.underlying25 sz3) rfl ?_
    refine WL.step (ok_load rfl one3 (rd_int hr j.toNat hjl)) rfl ?_
    refine WL.step (ok_geq rfl rfl) rfl ?_
    refine WL.step (ok_move rfl) rfl ?_
    refine WL.splitB 14 rfl (fun hb14 => ?_) (fun hb14 => ?_)
    ·
      refine WL.on rfl rfl ?_
      refine WL.step (ok_move rfl) rfl ?_
      refine WL.on rfl rfl ?_
      refine WL.step (ok_move rfl) rfl ?_
      refine WL.on rfl rfl ?_
      refine WL.step (ok_indexS j.toNat rfl rfl (by omega) (by omega) Try.underlying25 sz3) rfl ?_
      refine WL.on rfl rfl ?_
      refine WL.step (ok_load rfl one3 (rd_int hr j.toNat hjl)) rfl ?_
      refine WL.on rfl rfl ?_
      refine WL.step (ok_move rfl) rfl ?_
      refine WL.on rfl rfl ?_
      refine WL.step (ok_lss rfl rfl) rfl ?_
      refine WL.step (ok_pickT rfl rfl) rfl ?_
      refine WL.step (ok_assign rfl) rfl ?_
      refine WL.nil ?_
      refine WX.thenC ?_
      refine WC.ret ?_
      exact WX.ret1 rfl rfl ⟨_, rfl, by unfold earl; rw [decide_eq_false hpos, Bool.false_or, hg, show decide (0 ≤ P[j.toNat]) = true from hb14, Bool.true_and], rfl⟩
    ·
      refine WL.off rfl rfl rfl rfl ?_
      refine WL.off rfl rfl rfl rfl ?_
      refine WL.off rfl rfl rfl rfl ?_
      refine WL.off rfl rfl rfl rfl ?_
      refine WL.off rfl rfl rfl rfl ?_
      refine WL.off rfl rfl rfl rfl ?_
      refine WL.step (ok_pickF rfl rfl) rfl ?_
      refine WL.step (ok_assign rfl) rfl ?_
      refine WL.nil ?_
      refine WX.thenC ?_
      refine WC.ret ?_
      exact WX.ret1 rfl rfl ⟨_, rfl, by unfold earl; rw [decide_eq_false hpos, Bool.false_or, hg, show decide (0 ≤ P[j.toNat]) = false from hb14, Bool.false_and], rfl⟩
theorem unplayed (P : List Int) (j : Int) (hj : j < P.length) (pb cap : Nat) (w : World) (hr : Rd w pb 0 (ic P)) :
    CallsV Try.prog 15 #[.int .i64 j, .slice (some ⟨pb, 0, none⟩) P.length cap] w fun v w' => v = .bool (unpl P j) ∧ w' = w := by
  refine calls_intro (args := [_, _]) Try.func15 rfl Try.ntmps15 rfl ?_
  refine WC.seq ?_
  refine WC.region ?_
  refine WL.step (ok_assign rfl) rfl ?_
  refine WL.nil ?_
  refine WX.thenC ?_
  refine WC.seq ?_
  refine WC.region ?_
  refine WL.step (ok_move rfl) rfl ?_
  refine WL.step (ok_geq rfl rfl) rfl ?_
  refine WL.step (ok_move rfl) rfl ?_
  refine WL.splitB 7 rfl (fun hb7 => ?_) (fun hb7 => ?_)
  ·
    have hpos : 0 ≤ j := of_decide_eq_true hb7
    have hjl : j.toNat < P.length := by omega
    have hg := getD_int P j.toNat hjl
    refine WL.on rfl rfl ?_
    refine WL.step (ok_move rfl) rfl ?_
    refine WL.on rfl rfl ?_
    refine WL.step (ok_move rfl) rfl ?_
    refine WL.on rfl rfl ?_
    refine WL.step (ok_indexS j.toNat rfl rfl (by omega) (by omega) Try.underlying25 sz3) rfl ?_
    refine WL.on rfl rfl ?_
    refine WL.step (ok_load rfl one3 (rd_int hr j.toNat hjl)) rfl ?_
    refine WL.on rfl rfl ?_
    refine WL.step (ok_lss rfl rfl) rfl ?_
    refine WL.step (ok_pickT rfl rfl) rfl ?_
    refine WL.step (ok_assign rfl) rfl ?_
    refine WL.nil ?_
    refine WX.thenC ?_
    refine WC.ret ?_
    exact WX.ret1 rfl rfl ⟨_, rfl, by unfold unpl; rw [decide_eq_true hpos, Bool.true_and, hg], rfl⟩
  ·
    have hneg : ¬ 0 ≤ j := of_decide_eq_false hb7
    refine WL.off rfl rfl rfl rfl ?_
    refine WL.off rfl rfl rfl rfl ?_
    refine WL.off rfl rfl rfl rfl ?_
    refine WL.off rfl rfl rfl rfl ?_
    refine WL.off rfl rfl rfl rfl ?_
    refine WL.step (ok_pickF rfl rfl) rfl ?_
    refine WL.step (ok_assign rfl) rfl ?_
    refine WL.nil ?_
    refine WX.thenC ?_
    refine WC.ret ?_
    exact WX.ret1 rfl rfl ⟨_, rfl, by unfold unpl; rw [decide_eq_false hneg, Bool.false_and], rfl⟩
theorem isRoot (s : Stp) (hn : s.cl.length ≤ 1048576) (w : World) (hI : IntsAt w s.ca s.cl) :
    CallsV Try.prog 17 #[.agg s.cells.toArray] w fun v w' => v = .bool (decide (∀ z ∈ s.js, z < 0)) ∧ Ext w w' := by
  obtain ⟨kd, pv, sd, ca, cl, cc⟩ := s
  dsimp only at hn hI
  have hno : ∀ z, z ∈ Stp.js ⟨kd, pv, sd, ca, cl, cc⟩ → 0 ≤ z → decide (∀ z ∈ Stp.js ⟨kd, pv, sd, ca, cl, cc⟩, z < 0) = false := fun z hz h0 => decide_eq_false (fun h => by have := h z hz; omega)
  refine calls_intro (args := [_]) Try.func17 rfl Try.ntmps17 rfl ?_
  refine WC.seq ?_
  refine WC.region ?_
  refine WL.box (c := Stp.cells ⟨kd, pv, sd, ca, cl, cc⟩) rfl rfl rfl ?_
  intro b1 w1 hb1 ho1 hk1 hs1
  refine WL.step (ok_assign rfl) rfl ?_
  refine WL.nil ?_
  refine WX.thenC ?_
  refine WC.seq ?_
  refine WC.seq ?_
  refine WC.region ?_
  refine WL.step (ok_field rfl fld31_1) rfl ?_
  refine WL.step (ok_load rfl one3 (ho1.rd0.cell 1 _ rfl)) rfl ?_
  refine WL.step (ok_geq rfl rfl) rfl ?_
  refine WL.step (ok_move rfl) rfl ?_
  refine WL.splitB 7 rfl (fun hb7 => ?_) (fun hb7 => ?_)
  ·
    have hp : 0 ≤ pv := of_decide_eq_true hb7
    refine WL.off rfl rfl rfl rfl ?_
    refine WL.off rfl rfl rfl rfl ?_
    refine WL.off rfl rfl rfl rfl ?_
    refine WL.step (ok_pickT rfl rfl) rfl ?_
    refine WL.nil ?_
    refine WX.thenC ?_
    refine WC.condTb rfl rfl ?_
    refine WC.seq ?_
    refine WC.region ?_
    refine WL.step (ok_assign rfl) rfl ?_
    refine WL.nil ?_
    refine WX.thenC ?_
    refine WC.ret ?_
    refine WX.thenR ?_
    exact WX.ret1 rfl rfl ⟨_, rfl, by rw [hno pv (by simp [Stp.js]) hp], hk1⟩
  ·
    have hp : ¬ 0 ≤ pv := of_decide_eq_false hb7
    refine WL.on rfl rfl ?_
    refine WL.step (ok_field rfl fld31_2) rfl ?_
    refine WL.on rfl rfl ?_
    refine WL.step (ok_load rfl one3 (ho1.rd0.cell 2 _ rfl)) rfl ?_
    refine WL.on rfl rfl ?_
    refine WL.step (ok_geq rfl rfl) rfl ?_
    refine WL.step (ok_pickF rfl rfl) rfl ?_
    refine WL.nil ?_
    refine WX.thenC ?_
    refine WC.cond rfl (fun hc11 => ?_) (fun hc11 => ?_)
    ·
      have hs2 : 0 ≤ sd := of_decide_eq_true hc11
      refine WC.seq ?_
      refine WC.region ?_
      refine WL.step (ok_assign rfl) rfl ?_
      refine WL.nil ?_
      refine WX.thenC ?_
      refine WC.ret ?_
      refine WX.thenR ?_
      exact WX.ret1 rfl rfl ⟨_, rfl, by rw [hno sd (by simp [Stp.js]) hs2], hk1⟩
    ·
      have hs2 : ¬ 0 ≤ sd := of_decide_eq_false hc11
      have hI1 := hI.ext hk1
      refine WC.skip ?_
      refine WX.thenC ?_
      refine WC.seq ?_
      refine WC.seq ?_
      refine WC.region ?_
      refine WL.step (ok_assign rfl) rfl ?_
      refine WL.nil ?_
      refine WX.thenC ?_
      refine WC.block ?_
      refine WC.loop (fun c : Nat => [(1, .pointer (some ⟨b1, 0, none⟩)), (3, .int .i64 (c : Nat))])
        (fun c w' => c ≤ cl.length ∧ (∀ i (h : i < cl.length), i < c → cl[i] < 0) ∧ w' = w1) (fun c => cl.length - c) 0 (by repeat (first | exact trivial | refine ⟨rfl, ?_⟩)) ?_ ?_
      · exact ⟨by omega, fun i h h2 => by omega, rfl⟩
      rintro c w2 ⟨hcn, hcc, hw2⟩
      have hw2 := hw2.symm
      subst hw2
      refine WC.seq ?_
      refine WC.seq ?_
      refine WC.region ?_
      refine WL.step (ok_move rfl) rfl ?_
      refine WL.step (ok_field rfl fld31_3) rfl ?_
      refine WL.step (ok_load rfl one25 (ho1.rd0.cell 3 _ rfl)) rfl ?_
      refine WL.step (ok_lenSlice rfl Try.underlying25) rfl ?_
      refine WL.step (ok_lss rfl rfl) rfl ?_
      refine WL.nil ?_
      refine WX.thenC ?_
      refine WC.cond rfl (fun hc16 => ?_) (fun hc16 => ?_)
      ·
        have hlt : c < cl.length := by have h : (c : Int) < (cl.length : Int) := of_decide_eq_true hc16; omega
        obtain ⟨b, off, rfl, hr⟩ := hI1.at hlt
        refine WC.skip ?_
        refine WX.thenC ?_
        refine WC.seq ?_
        refine WC.block ?_
        refine WC.seq ?_
        refine WC.region ?_
        refine WL.step (ok_field rfl fld31_3) rfl ?_
        refine WL.step (ok_load rfl one25 (ho1.rd0.cell 3 _ rfl)) rfl ?_
        refine WL.step (ok_move rfl) rfl ?_
        refine WL.step (ok_indexS _ rfl rfl rfl (by omega) Try.underlying25 sz3) rfl ?_
        refine WL.step (ok_load rfl one3 (rd_int hr c hlt)) rfl ?_
        refine WL.step (ok_geq rfl rfl) rfl ?_
        refine WL.nil ?_
        refine WX.thenC ?_
        refine WC.cond rfl (fun hc24 => ?_) (fun hc24 => ?_)
        ·
          have hcz : 0 ≤ cl[c] := of_decide_eq_true hc24
          refine WC.seq ?_
          refine WC.region ?_
          refine WL.step (ok_assign rfl) rfl ?_
          refine WL.nil ?_
          refine WX.thenC ?_
          refine WC.ret ?_
          refine WX.blockR ?_
          refine WX.thenR ?_
          refine WX.thenR ?_
          refine WX.blockR ?_
          refine WX.thenR ?_
          exact WX.ret1 rfl rfl ⟨_, rfl, by rw [hno cl[c] (by simp [Stp.js]) hcz], hk1⟩
        ·
          have hcz : ¬ 0 ≤ cl[c] := of_decide_eq_false hc24
          refine WC.skip ?_
          refine WX.blockN ?_
          refine WX.thenC ?_
          refine WC.region ?_
          refine WL.step (ok_move rfl) rfl ?_
          refine WL.step (ok_add ((c + 1 : Nat) : Int) rfl rfl (by omega) (by omega) (by omega)) rfl ?_
          refine WL.step (ok_assign rfl) rfl ?_
          refine WL.nil ?_
          refine WX.again (c + 1) (by repeat (first | exact trivial | refine ⟨rfl, ?_⟩)) ⟨by omega, ?_, rfl⟩ (by omega)
          intro i h hik
          by_cases e : i = c
          · subst e; omega
          · exact hcc i h (by omega)
      ·
        have hge : c = cl.length := by have h : ¬ (c : Int) < (cl.length : Int) := of_decide_eq_false hc16; omega
        refine WC.exit ?_
        refine WX.thenE ?_
        refine WX.thenE ?_
        refine WX.blockHit ?_
        refine WX.thenC ?_
        refine WC.seq ?_
        refine WC.region ?_
        refine WL.step (ok_assign rfl) rfl ?_
        refine WL.nil ?_
        refine WX.thenC ?_
        refine WC.ret ?_
        exact WX.ret1 rfl rfl ⟨_, rfl, by rw [decide_eq_true (js_lt (s := ⟨kd, pv, sd, ca, cl, cc⟩) (by show pv < 0; omega) (by show sd < 0; omega) (fun i h => hcc i h (by have : i < cl.length := h; omega)))], hk1⟩

end Go.Proofs.Try
