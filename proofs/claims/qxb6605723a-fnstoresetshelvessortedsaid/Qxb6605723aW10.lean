/- Walks: bytes cloned and compared. -/
import Derived.Test.Qxb6605723aW9
set_option linter.unusedVariables false
set_option linter.unusedSimpArgs false
set_option maxRecDepth 100000
namespace Go.Sx
open Go.Pl
theorem kc_take_succ (l : List UInt8) (j : Nat) (hj : j < l.length) (rest : List Value) : splice (kc (l.take j) ++ rest) (0 + j * 1) [.int .u8 (at8 l j : Nat)] = kc (l.take (j + 1)) ++ rest.drop 1 := by
  have h8 : at8 l j = l[j].toNat := by simp [at8, List.getD, hj]
  rw [splice_mid _ _ _ _ (by simp; omega), List.take_succ_eq_append_getElem hj, h8]
  simp only [kc, List.map_append, List.map_cons, List.map_nil, List.append_assoc, List.length_cons, List.length_nil]
end Go.Sx
namespace Go.Proofs.Try
open Go.Sx Go.Pl

theorem cloneBytes (l : List UInt8) (a : Option Addr) (cap : Nat) (hn : l.length ≤ 1048576) (w : World) (hI : BytesAt w a l) :
    CallsV Try.prog 40 #[.slice a l.length cap] w fun v w' => ∃ a' cap', v = .slice a' l.length cap' ∧ BytesAt w' a' l ∧ (∀ b off, a' = some ⟨b, off, none⟩ → w.heap.size ≤ b) ∧ Ext w w' := by
  refine calls_intro (args := [_]) Try.func40 rfl Try.ntmps40 rfl ?_
  refine WC.seq ?_
  refine WC.region ?_
  refine WL.step (ok_assign rfl) rfl ?_
  refine WL.nil ?_
  refine WX.thenC ?_
  refine WC.seq ?_
  refine WC.seq ?_
  refine WC.region ?_
  refine WL.step (ok_move rfl) rfl ?_
  refine WL.step (ok_eqlNil rfl Try.underlying30) rfl ?_
  refine WL.nil ?_
  refine WX.thenC ?_
  refine WC.cond rfl (fun hc6 => ?_) (fun hc6 => ?_)
  ·
    have hl0 : a = none := by simpa using hc6
    have hnil : l = [] := Classical.byContradiction fun hne => by obtain ⟨b, off, h1, _⟩ := hI hne; rw [hl0] at h1; cases h1
    refine WC.seq ?_
    refine WC.region ?_
    refine WL.step (ok_assign rfl) rfl ?_
    refine WL.nil ?_
    refine WX.thenC ?_
    refine WC.ret ?_
    refine WX.thenR ?_
    exact WX.ret1 rfl rfl ⟨_, rfl, none, 0, by rw [hnil]; rfl, fun hne => absurd hnil hne, (by intro b off h; cases h), Kp.refl _ _⟩
  ·
    refine WC.skip ?_
    refine WX.thenC ?_
    refine WC.seq ?_
    refine WC.region ?_
    refine WL.step (ok_move rfl) rfl ?_
    refine WL.step (ok_lenSlice rfl Try.underlying30) rfl ?_
    refine WL.make (l.length) elt30 rfl (by omega) (by omega) rfl ?_
    intro b9 w9 c9 hb9 ho9 hl9 hz9 hk9 hs9
    refine WL.step (ok_assign rfl) rfl ?_
    refine WL.nil ?_
    refine WX.thenC ?_
    refine WC.seq ?_
    refine WC.seq ?_
    refine WC.region ?_
    refine WL.step (ok_assign rfl) rfl ?_
    refine WL.nil ?_
    refine WX.thenC ?_
    refine WC.block ?_
    refine WC.loop (fun k : Nat => [(0, .slice a l.length cap), (3, .slice (some ⟨b9, 0, none⟩) l.length l.length), (4, .int .i64 (k : Nat))])
      (fun k w' => k ≤ l.length ∧ Ext w w' ∧ ∃ rest, Own w' b9 5 (kc (l.take k) ++ rest) ∧ rest.length = l.length - k) (fun k => l.length - k) 0 (by repeat (first | exact trivial | refine ⟨rfl, ?_⟩)) ?_ ?_
    · exact ⟨by omega, hk9, c9, by simpa [kc] using ho9, by simpa using hl9⟩
    rintro k w1 ⟨hkn, hE, rest, hO, hrest⟩
    refine WC.seq ?_
    refine WC.seq ?_
    refine WC.region ?_
    refine WL.step (ok_move rfl) rfl ?_
    refine WL.step (ok_move rfl) rfl ?_
    refine WL.step (ok_lenSlice rfl Try.underlying30) rfl ?_
    refine WL.step (ok_lss rfl rfl) rfl ?_
    refine WL.nil ?_
    refine WX.thenC ?_
    refine WC.cond rfl (fun hc13 => ?_) (fun hc13 => ?_)
    ·
      have hlt : k < l.length := by have := of_decide_eq_true hc13; omega
      obtain ⟨b, off, rfl, hr⟩ := (hI.ext hE).at hlt
      refine WC.skip ?_
      refine WX.thenC ?_
      refine WC.seq ?_
      refine WC.block ?_
      refine WC.region ?_
      refine WL.step (ok_move rfl) rfl ?_
      refine WL.step (ok_move rfl) rfl ?_
      refine WL.step (ok_move rfl) rfl ?_
      refine WL.step (ok_move rfl) rfl ?_
      refine WL.step (ok_indexS _ rfl rfl rfl (by omega) Try.underlying30 sz5) rfl ?_
      refine WL.step (ok_load rfl one5 (rd_byte hr k hlt)) rfl ?_
      refine WL.step (ok_indexS _ rfl rfl rfl (by omega) Try.underlying30 sz5) rfl ?_
      refine WL.store rfl rfl sz5 (hO) (by simp [Value.cells]) (by simp [Value.cells]; omega) (by simp [Value.cells, Value.oneCell']) ?_
      intro wr7 hor7 hkr7 hsr7
      have hor7' : Own wr7 b9 5 (kc (l.take (k + 1)) ++ rest.drop 1) := by
        have := hor7
        simp only [Value.cells] at this
        rw [← kc_take_succ l k hlt rest]
        exact this
      refine WL.nil ?_
      refine WX.blockN ?_
      refine WX.thenC ?_
      refine WC.region ?_
      refine WL.step (ok_move rfl) rfl ?_
      refine WL.step (ok_add ((k + 1 : Nat) : Int) rfl rfl (by omega) (by omega) (by omega)) rfl ?_
      refine WL.step (ok_assign rfl) rfl ?_
      refine WL.nil ?_
      exact WX.again (k + 1) (by repeat (first | exact trivial | refine ⟨rfl, ?_⟩)) ⟨by omega, hE.over hkr7 (fun i hi e => by omega), rest.drop 1, hor7', by simp [hrest]; omega⟩ (by omega)
    ·
      have hge : k = l.length := by have := of_decide_eq_false hc13; omega
      refine WC.exit ?_
      refine WX.thenE ?_
      refine WX.thenE ?_
      refine WX.blockHit ?_
      refine WX.thenC ?_
      refine WC.seq ?_
      refine WC.region ?_
      refine WL.step (ok_move rfl) rfl ?_
      refine WL.step (ok_assign rfl) rfl ?_
      refine WL.nil ?_
      refine WX.thenC ?_
      refine WC.ret ?_
      exact WX.ret1 rfl rfl ⟨_, rfl, some ⟨b9, 0, none⟩, l.length, rfl, fun _ => ⟨b9, 0, rfl, fun j v hv => by rw [hge, List.take_length] at hO; exact hO.rd0.append_left j v hv⟩, (by intro b off h; cases h; omega), hE⟩
theorem bytesSame (l : List UInt8) (a a2 : Option Addr) (cap cap2 : Nat) (hn : l.length ≤ 1048576) (w : World) (hI : BytesAt w a l) (hI2 : BytesAt w a2 l) :
    CallsV Try.prog 17 #[.slice a l.length cap, .slice a2 l.length cap2] w fun v w' => v = .bool true ∧ Ext w w' := by
  refine calls_intro (args := [_, _]) Try.func17 rfl Try.ntmps17 rfl ?_
  refine WC.seq ?_
  refine WC.region ?_
  refine WL.step (ok_assign rfl) rfl ?_
  refine WL.nil ?_
  refine WX.thenC ?_
  refine WC.seq ?_
  refine WC.seq ?_
  refine WC.region ?_
  refine WL.step (ok_move rfl) rfl ?_
  refine WL.step (ok_lenSlice rfl Try.underlying30) rfl ?_
  refine WL.step (ok_move rfl) rfl ?_
  refine WL.step (ok_lenSlice rfl Try.underlying30) rfl ?_
  refine WL.step (ok_neq rfl rfl) rfl ?_
  refine WL.nil ?_
  refine WX.thenC ?_
  refine WC.condFb rfl (by simp) ?_
  refine WC.skip ?_
  refine WX.thenC ?_
  refine WC.seq ?_
  refine WC.seq ?_
  refine WC.region ?_
  refine WL.step (ok_assign rfl) rfl ?_
  refine WL.nil ?_
  refine WX.thenC ?_
  refine WC.block ?_
  refine WC.loop (fun k : Nat => [(0, .slice a l.length cap), (1, .slice a2 l.length cap2), (5, .int .i64 (k : Nat))])
    (fun k w' => k ≤ l.length ∧ Ext w w') (fun k => l.length - k) 0 (by repeat (first | exact trivial | refine ⟨rfl, ?_⟩)) ?_ ?_
  · exact ⟨by omega, Kp.refl _ _⟩
  rintro k w1 ⟨hkn, hE⟩
  refine WC.seq ?_
  refine WC.seq ?_
  refine WC.region ?_
  refine WL.step (ok_move rfl) rfl ?_
  refine WL.step (ok_move rfl) rfl ?_
  refine WL.step (ok_lenSlice rfl Try.underlying30) rfl ?_
  refine WL.step (ok_lss rfl rfl) rfl ?_
  refine WL.nil ?_
  refine WX.thenC ?_
  refine WC.cond rfl (fun hc14 => ?_) (fun hc14 => ?_)
  ·
    have hlt : k < l.length := by have := of_decide_eq_true hc14; omega
    obtain ⟨b, off, rfl, hr⟩ := (hI.ext hE).at hlt
    obtain ⟨b2, off2, rfl, hr2⟩ := (hI2.ext hE).at hlt
    refine WC.skip ?_
    refine WX.thenC ?_
    refine WC.seq ?_
    refine WC.block ?_
    refine WC.seq ?_
    refine WC.drawE [] 4 [(0, true), (1, true), (2, true), (3, true), (4, true), (5, true), (6, true), (7, true), (8, true)] mixed (by kernel_rfl) (fun hS => ?_)
    refine WO.quiet rfl (fun _ _ => ok_move rfl) hS rfl ?_
    refine WO.quiet rfl (fun _ _ => ok_move rfl) hS rfl ?_
    refine WO.quiet rfl (fun _ _ => ok_indexS _ rfl rfl rfl (by omega) Try.underlying30 sz5) hS rfl ?_
    refine WO.quiet rfl (fun _ hw => ok_load rfl one5 (Kp.cell hw (rd_byte hr k hlt) (fun f => f))) hS rfl ?_
    refine WO.quiet rfl (fun _ _ => ok_move rfl) hS rfl ?_
    refine WO.quiet rfl (fun _ _ => ok_move rfl) hS rfl ?_
    refine WO.quiet rfl (fun _ _ => ok_indexS _ rfl rfl rfl (by omega) Try.underlying30 sz5) hS rfl ?_
    refine WO.quiet rfl (fun _ hw => ok_load rfl one5 (Kp.cell hw (rd_byte hr2 k hlt) (fun f => f))) hS rfl ?_
    refine WO.quiet rfl (fun _ _ => ok_neq rfl rfl) hS rfl ?_
    refine WO.nil ?_
    refine WX.thenC ?_
    refine WC.condFb rfl (by simp) ?_
    refine WC.skip ?_
    refine WX.blockN ?_
    refine WX.thenC ?_
    refine WC.region ?_
    refine WL.step (ok_move rfl) rfl ?_
    refine WL.step (ok_add ((k + 1 : Nat) : Int) rfl rfl (by omega) (by omega) (by omega)) rfl ?_
    refine WL.step (ok_assign rfl) rfl ?_
    refine WL.nil ?_
    exact WX.again (k + 1) (by repeat (first | exact trivial | refine ⟨rfl, ?_⟩)) ⟨by omega, hE.trans (Kp.drew _ _)⟩ (by omega)
  ·
    refine WC.exit ?_
    refine WX.thenE ?_
    refine WX.thenE ?_
    refine WX.blockHit ?_
    refine WX.thenC ?_
    refine WC.seq ?_
    refine WC.region ?_
    refine WL.step (ok_assign rfl) rfl ?_
    refine WL.nil ?_
    refine WX.thenC ?_
    refine WC.ret ?_
    exact WX.ret1 rfl rfl ⟨_, rfl, rfl, hE⟩

end Go.Proofs.Try
