/- Walks: the searches. -/
import Derived.Test.Qxb6605723aW3
import Derived.Test.Qxb6605723aSlt
set_option linter.unusedVariables false
set_option linter.unusedSimpArgs false
set_option maxRecDepth 100000
namespace Go.Proofs.Try
open Go.Sx Go.Pl

theorem findIn (s : Slot) (hs : OkSl s) (b off b4 b5 : Nat) (k : List UInt8) (n : ByteArray) (hk : k.length = 20) (w : World) (hr : Rd w b off s.cells) (h4 : Own w b4 33 (kc k)) (h5 : Own w b5 9 [.string n]) :
    CallsV Try.prog 59 #[.pointer (some ⟨b, off, none⟩), .pointer (some ⟨b4, 0, none⟩), .pointer (some ⟨b5, 0, none⟩)] w fun v w' => v = .bool (!ltP s.key s.name.toList k n.toList) ∧ Ext w w' := by
  have hc3 := cmpK_range s.key k
  refine calls_intro (args := [_, _, _]) Try.func59 rfl Try.ntmps59 rfl ?_
  refine WC.seq ?_
  refine WC.region ?_
  refine WL.step (ok_assign rfl) rfl ?_
  refine WL.nil ?_
  refine WX.thenC ?_
  refine WC.seq ?_
  refine WC.drawE [6, 7] 7 [(0, true), (1, true), (2, true), (3, true), (4, true), (5, true), (6, false), (7, false)] mixed (by kernel_rfl) (fun hS => ?_)
  refine WO.quiet rfl (fun _ _ => ok_move rfl) hS rfl ?_
  refine WO.quiet rfl (fun _ _ => ok_nilCheck rfl) hS rfl ?_
  refine WO.quiet rfl (fun _ _ => ok_field rfl fld54_0) hS rfl ?_
  refine WO.quiet rfl (fun _ _ => ok_field rfl fld35_0) hS rfl ?_
  refine WO.quiet rfl (fun _ hw => ok_loadN rfl agg33 sz33 (by simp [hs.1]) (Rd.kp (rd_skey hr) hw (fun f => f))) hS rfl ?_
  refine WO.quiet rfl (fun _ hw => ok_loadN rfl agg33 sz33 (by simp [hk]) (Rd.kp (h4.rd0) hw (fun f => f))) hS rfl ?_
  refine WO.loudCall rfl (ok_callF rfl isfn58) rfl (compareW s.key k hs.1 hk _) ?_
  rintro v w1 ⟨rfl, hE1⟩
  refine ⟨(inL rfl), ?_⟩
  have hE := (Kp.drew _ w).trans hE1
  have hr1 := hr.kp hE (fun f => f)
  have h51 := h5.ext hE
  refine WO.loud rfl (ok_assign rfl) (inL rfl) rfl ?_
  refine WO.nil ?_
  refine WX.thenC ?_
  refine WC.seq ?_
  refine WC.drawE [] 15 [(0, true), (1, true), (2, true), (3, true), (4, true), (5, true), (6, true), (7, true), (8, true), (9, true), (10, true), (11, true), (12, true), (13, true), (14, true), (15, true)] mixed (by kernel_rfl) (fun hS => ?_)
  refine WO.quiet rfl (fun _ _ => ok_move rfl) hS rfl ?_
  refine WO.quiet rfl (fun _ _ => ok_gtr rfl rfl) hS rfl ?_
  refine WO.quiet rfl (fun _ _ => ok_move rfl) hS rfl ?_
  refine WO.splitB 15 rfl (fun hb15 => ?_) (fun hb15 => ?_)
  ·
    have q1 := of_decide_eq_true hb15
    refine WO.off rfl rfl rfl rfl hS rfl ?_
    refine WO.off rfl rfl rfl rfl hS rfl ?_
    refine WO.off rfl rfl rfl rfl hS rfl ?_
    refine WO.offU rfl rfl rfl hS rfl ?_
    refine WO.offU rfl rfl rfl hS rfl ?_
    refine WO.offU rfl rfl rfl hS rfl ?_
    refine WO.offU rfl rfl rfl hS rfl ?_
    refine WO.offU rfl rfl rfl hS rfl ?_
    refine WO.offU rfl rfl rfl hS rfl ?_
    refine WO.offU rfl rfl rfl hS rfl ?_
    refine WO.off rfl rfl rfl rfl hS rfl ?_
    refine WO.quiet rfl (fun _ _ => ok_pickT rfl rfl) hS rfl ?_
    refine WO.quiet rfl (fun _ _ => ok_assign rfl) hS rfl ?_
    refine WO.nil ?_
    refine WX.thenC ?_
    refine WC.ret ?_
    exact WX.ret1 rfl rfl ⟨_, rfl, by unfold ltP; rw [if_neg (by omega), decide_eq_false (by omega)]; rfl, hE.trans (Kp.drew _ _)⟩
  ·
    have q1 := of_decide_eq_false hb15
    refine WO.quietOn rfl rfl rfl (fun _ _ => ok_move rfl) hS rfl ?_
    refine WO.quietOn rfl rfl rfl (fun _ _ => ok_eql rfl rfl) hS rfl ?_
    refine WO.quietOn rfl rfl rfl (fun _ _ => ok_move rfl) hS rfl ?_
    refine WO.splitB 18 rfl (fun hb18 => ?_) (fun hb18 => ?_)
    ·
      have q2 := of_decide_eq_true hb18
      refine WO.quietOn rfl rfl rfl (fun _ _ => ok_move rfl) hS rfl ?_
      refine WO.quietOn rfl rfl rfl (fun _ _ => ok_nilCheck rfl) hS rfl ?_
      refine WO.quietOn rfl rfl rfl (fun _ _ => ok_field rfl fld54_0) hS rfl ?_
      refine WO.quietOn rfl rfl rfl (fun _ _ => ok_field rfl fld35_1) hS rfl ?_
      refine WO.quietOn rfl rfl rfl (fun _ hw => ok_load rfl one9 (Kp.cell hw (rd_sname hr1 hs.1) (fun f => f))) hS rfl ?_
      refine WO.quietOn rfl rfl rfl (fun _ hw => ok_load rfl one9 (Kp.cell hw ((h51.cell 0)) (fun f => f))) hS rfl ?_
      refine WO.quietOn rfl rfl rfl (fun _ _ => ok_geqS rfl rfl) hS rfl ?_
      refine WO.quietOn rfl rfl rfl (fun _ _ => ok_pickT rfl rfl) hS rfl ?_
      refine WO.quiet rfl (fun _ _ => ok_pickF rfl rfl) hS rfl ?_
      refine WO.quiet rfl (fun _ _ => ok_assign rfl) hS rfl ?_
      refine WO.nil ?_
      refine WX.thenC ?_
      refine WC.ret ?_
      exact WX.ret1 rfl rfl ⟨_, rfl, by unfold ltP; rw [if_pos q2], hE.trans (Kp.drew _ _)⟩
    ·
      have q2 := of_decide_eq_false hb18
      refine WO.off rfl rfl rfl rfl hS rfl ?_
      refine WO.off rfl rfl rfl rfl hS rfl ?_
      refine WO.off rfl rfl rfl rfl hS rfl ?_
      refine WO.off rfl rfl rfl rfl hS rfl ?_
      refine WO.off rfl rfl rfl rfl hS rfl ?_
      refine WO.off rfl rfl rfl rfl hS rfl ?_
      refine WO.off rfl rfl rfl rfl hS rfl ?_
      refine WO.quietOn rfl rfl rfl (fun _ _ => ok_pickF rfl rfl) hS rfl ?_
      refine WO.quiet rfl (fun _ _ => ok_pickF rfl rfl) hS rfl ?_
      refine WO.quiet rfl (fun _ _ => ok_assign rfl) hS rfl ?_
      refine WO.nil ?_
      refine WX.thenC ?_
      refine WC.ret ?_
      exact WX.ret1 rfl rfl ⟨_, rfl, by unfold ltP; rw [if_neg q2, decide_eq_true (by omega)]; rfl, hE.trans (Kp.drew _ _)⟩
theorem afterIn (s : Slot) (hs : OkSl s) (b off b4 : Nat) (k : List UInt8) (hk : k.length = 20) (w : World) (hr : Rd w b off s.cells) (h4 : Own w b4 33 (kc k)) :
    CallsV Try.prog 57 #[.pointer (some ⟨b, off, none⟩), .pointer (some ⟨b4, 0, none⟩)] w fun v w' => v = .bool (decide (0 < cmpK s.key k)) ∧ Ext w w' := by
  refine calls_intro (args := [_, _]) Try.func57 rfl Try.ntmps57 rfl ?_
  refine WC.seq ?_
  refine WC.region ?_
  refine WL.step (ok_assign rfl) rfl ?_
  refine WL.nil ?_
  refine WX.thenC ?_
  refine WC.seq ?_
  refine WC.drawE [6, 7, 8] 8 [(0, true), (1, true), (2, true), (3, true), (4, true), (5, true), (6, false), (7, false), (8, false)] mixed (by kernel_rfl) (fun hS => ?_)
  refine WO.quiet rfl (fun _ _ => ok_move rfl) hS rfl ?_
  refine WO.quiet rfl (fun _ _ => ok_nilCheck rfl) hS rfl ?_
  refine WO.quiet rfl (fun _ _ => ok_field rfl fld54_0) hS rfl ?_
  refine WO.quiet rfl (fun _ _ => ok_field rfl fld35_0) hS rfl ?_
  refine WO.quiet rfl (fun _ hw => ok_loadN rfl agg33 sz33 (by simp [hs.1]) (Rd.kp (rd_skey hr) hw (fun f => f))) hS rfl ?_
  refine WO.quiet rfl (fun _ hw => ok_loadN rfl agg33 sz33 (by simp [hk]) (Rd.kp (h4.rd0) hw (fun f => f))) hS rfl ?_
  refine WO.loudCall rfl (ok_callF rfl isfn58) rfl (compareW s.key k hs.1 hk _) ?_
  rintro v w1 ⟨rfl, hE1⟩
  refine ⟨(inL rfl), ?_⟩
  have hE := (Kp.drew _ w).trans hE1
  refine WO.loud rfl (ok_gtr rfl rfl) (inL rfl) rfl ?_
  refine WO.loud rfl (ok_assign rfl) (inL rfl) rfl ?_
  refine WO.nil ?_
  refine WX.thenC ?_
  refine WC.ret ?_
  exact WX.ret1 rfl rfl ⟨_, rfl, rfl, hE⟩
theorem sortSearch (n : Nat) (hn : n ≤ 4611686018427387904) (fid : FuncId) (hfn : IsFn Try.prog fid) (cap : Array Value) (p : Nat → Bool) (hm : ∀ i j, i ≤ j → j < n → p i = true → p j = true) (w : World)
    (hf : ∀ w1 i, Ext w w1 → i < n → CallsV Try.prog fid (#[.int .i64 (i : Nat)] ++ cap) w1 fun v w' => v = .bool (p i) ∧ Ext w1 w') :
    CallsV Try.prog 61 #[.int .i64 (n : Nat), .func (.func fid) #[] cap] w fun v w' => ∃ r : Nat, v = .int .i64 (r : Nat) ∧ r ≤ n ∧ (∀ i, i < r → p i = false) ∧ (r < n → p r = true) ∧ Ext w w' := by
  refine calls_intro (args := [_, _]) Try.func61 rfl Try.ntmps61 rfl ?_
  refine WC.seq ?_
  refine WC.region ?_
  refine WL.step (ok_assign rfl) rfl ?_
  refine WL.nil ?_
  refine WX.thenC ?_
  refine WC.seq ?_
  refine WC.region ?_
  refine WL.step (ok_move rfl) rfl ?_
  refine WL.step (ok_assign rfl) rfl ?_
  refine WL.step (ok_assign rfl) rfl ?_
  refine WL.nil ?_
  refine WX.thenC ?_
  refine WC.seq ?_
  refine WC.block ?_
  refine WC.loop (fun x : Nat × Nat => [(1, .func (.func fid) #[] cap), (5, .int .i64 (x.1 : Nat)), (6, .int .i64 (x.2 : Nat))])
    (fun x w' => x.1 ≤ x.2 ∧ x.2 ≤ n ∧ (∀ k, k < x.1 → p k = false) ∧ (∀ k, x.2 ≤ k → k < n → p k = true) ∧ Ext w w') (fun x => x.2 - x.1) (0, n) (by repeat (first | exact trivial | refine ⟨rfl, ?_⟩)) ?_ ?_
  · exact ⟨by simp, by simp, (by intro k hk; simp at hk), (by intro k h1 h2; simp at h1; omega), Kp.refl _ _⟩
  rintro ⟨i, j⟩ w1 ⟨hij, hjn, hlo, hhi, hE⟩
  simp only at hij hjn hlo hhi
  refine WC.seq ?_
  refine WC.seq ?_
  refine WC.region ?_
  refine WL.step (ok_move rfl) rfl ?_
  refine WL.step (ok_move rfl) rfl ?_
  refine WL.step (ok_lss rfl rfl) rfl ?_
  refine WL.nil ?_
  refine WX.thenC ?_
  refine WC.cond rfl (fun hc11 => ?_) (fun hc11 => ?_)
  ·
    have hlt : i < j := by have := of_decide_eq_true hc11; omega
    refine WC.skip ?_
    refine WX.thenC ?_
    refine WC.block ?_
    refine WC.seq ?_
    refine WC.region ?_
    refine WL.step (ok_move rfl) rfl ?_
    refine WL.step (ok_move rfl) rfl ?_
    refine WL.step (ok_add ((i + j : Nat) : Int) rfl rfl (by omega) (by omega) (by omega)) rfl ?_
    refine WL.step (ok_convN rfl rfl Try.underlying88 rfl (by simp only [IntKind.bits]; omega)) rfl ?_
    refine WL.step (ok_shrN 1 rfl rfl rfl (by simp [IntKind.bits])) rfl ?_
    refine WL.step (ok_convS rfl rfl Try.underlying3 (by omega)) rfl ?_
    refine WL.step (ok_assign rfl) rfl ?_
    refine WL.nil ?_
    refine WX.thenC ?_
    refine WC.seq ?_
    refine WC.region ?_
    refine WL.step (ok_move rfl) rfl ?_
    refine WL.step (ok_move rfl) rfl ?_
    refine WL.call (ok_call rfl rfl hfn) rfl (hf w1 ((i + j) / 2 ^ 1) hE (by omega)) ?_
    rintro v w2 ⟨rfl, hE2⟩
    have hE3 := hE.trans hE2
    refine WL.step (ok_not rfl) rfl ?_
    refine WL.nil ?_
    refine WX.thenC ?_
    refine WC.cond rfl (fun hc21 => ?_) (fun hc21 => ?_)
    ·
      refine WC.region ?_
      refine WL.step (ok_move rfl) rfl ?_
      refine WL.step (ok_add (((i + j) / 2 ^ 1 + 1 : Nat) : Int) rfl rfl (by omega) (by omega) (by omega)) rfl ?_
      refine WL.step (ok_assign rfl) rfl ?_
      refine WL.nil ?_
      refine WX.blockN ?_
      refine WX.again ((i + j) / 2 ^ 1 + 1, j) (by repeat (first | exact trivial | refine ⟨rfl, ?_⟩)) ⟨by simp only; omega, hjn, ?_, hhi, hE3⟩ (by simp only; omega)
      intro k hk
      simp only at hk
      cases hpk : p k with
      | false => rfl
      | true =>
        have := hm k ((i + j) / 2 ^ 1) (by omega) (by omega) hpk
        rw [this] at hc21; simp at hc21
    ·
      refine WC.region ?_
      refine WL.step (ok_move rfl) rfl ?_
      refine WL.step (ok_assign rfl) rfl ?_
      refine WL.nil ?_
      refine WX.blockN ?_
      refine WX.again (i, (i + j) / 2 ^ 1) (by repeat (first | exact trivial | refine ⟨rfl, ?_⟩)) ⟨by simp only; omega, by simp only; omega, hlo, ?_, hE3⟩ (by simp only; omega)
      intro k h1 h2
      simp only at h1
      exact hm _ k h1 h2 (by simpa using hc21)
  ·
    have hge : i = j := by have := of_decide_eq_false hc11; omega
    refine WC.exit ?_
    refine WX.thenE ?_
    refine WX.thenE ?_
    refine WX.blockHit ?_
    refine WX.thenC ?_
    refine WC.seq ?_
    refine WC.region ?_
    refine WL.step (ok_move rfl) rfl ?_
    refine WL.step (ok_assign rfl) rfl ?_
    refine WL.nil ?_
    refine WX.thenC ?_
    refine WC.ret ?_
    exact WX.ret1 rfl rfl ⟨_, rfl, i, rfl, by omega, hlo, fun h => hhi i (by omega) h, hE⟩
theorem searchRun (rs : List CRun) (hd : Value) (g : Option Nat) (sb so b2 b3 : Nat) (fid : FuncId) (hfn : IsFn Try.prog fid) (cap : Array Value) (p : Slot → Bool) (w : World)
    (hR : RunsAt w hd rs g) (hh : w.cell? ⟨sb, so, none⟩ = some hd) (h2 : Own w b2 47 [.pointer (some ⟨sb, so, none⟩)]) (h3 : Own w b3 115 [.func (.func fid) #[] cap]) (hin : InOk Try.prog w fid cap p)
    (r : Nat) (hr : r < rs.length) (hne : rs[r].sl ≠ []) (hlen : rs[r].sl.length ≤ 4096) :
    CallsV Try.prog 62 #[.int .i64 (r : Nat), .pointer (some ⟨b2, 0, none⟩), .pointer (some ⟨b3, 0, none⟩)] w fun v w' => v = .bool (pl p rs[r].sl) ∧ Ext w w' := by
  obtain ⟨gb, hcap, spare, rfl, rfl, hO, hcl⟩ := hR.hd (by intro e; rw [e] at hr; simp at hr)
  have hrun := hR.run rs[r] (List.getElem_mem hr)
  have hpos : 0 < rs[r].sl.length := List.length_pos_iff.2 hne
  obtain ⟨m, hm⟩ : ∃ m, rs[r].sl.length = m + 1 := ⟨rs[r].sl.length - 1, by omega⟩
  have hps : pl p rs[r].sl = p (rs[r].sl[m]'(by omega)) := by unfold pl; rw [List.getLast?_eq_getElem?, List.getElem?_eq_getElem (by omega)]; simp [hm]
  refine calls_intro (args := [_, _, _]) Try.func62 rfl Try.ntmps62 rfl ?_
  refine WC.seq ?_
  refine WC.region ?_
  refine WL.step (ok_assign rfl) rfl ?_
  refine WL.nil ?_
  refine WX.thenC ?_
  refine WC.seq ?_
  refine WC.region ?_
  refine WL.step (ok_load rfl one47 (h2.cell 0)) rfl ?_
  refine WL.step (ok_nilCheck rfl) rfl ?_
  refine WL.step (ok_field rfl fld80_0) rfl ?_
  refine WL.step (ok_load rfl one45 (hh)) rfl ?_
  refine WL.step (ok_move rfl) rfl ?_
  refine WL.step (ok_indexS _ rfl rfl rfl (by omega) Try.underlying45 sz49) rfl ?_
  refine WL.step (ok_load rfl one49 (rd_hdr hO r hr)) rfl ?_
  refine WL.step (ok_assign rfl) rfl ?_
  refine WL.nil ?_
  refine WX.thenC ?_
  refine WC.seq ?_
  refine WC.drawE [6, 7] 6 [(0, true), (1, true), (2, true), (3, true), (4, true), (5, true), (6, false), (7, false)] mixed (by kernel_rfl) (fun hS => ?_)
  refine WO.quiet rfl (fun _ hw => ok_load rfl one115 (Kp.cell hw (h3.cell 0) (fun f => f))) hS rfl ?_
  refine WO.quiet rfl (fun _ _ => ok_move rfl) hS rfl ?_
  refine WO.quiet rfl (fun _ _ => ok_move rfl) hS rfl ?_
  refine WO.quiet rfl (fun _ _ => ok_lenSlice rfl Try.underlying49) hS rfl ?_
  refine WO.quiet rfl (fun _ _ => ok_sub (m : Int) rfl rfl (by omega) (by omega) (by omega)) hS rfl ?_
  refine WO.quiet rfl (fun _ _ => ok_indexS m rfl rfl rfl (by omega) Try.underlying49 sz54) hS rfl ?_
  refine WO.loudCall rfl (ok_call rfl rfl hfn) rfl (hin w.drew _ _ _ (Kp.drew _ _) (hrun.1 _ (List.getElem_mem (by omega))) (hrun.slot m (by omega))) ?_
  rintro v w2 ⟨rfl, hE2⟩
  refine ⟨(inL rfl), ?_⟩
  refine WO.loud rfl (ok_assign rfl) (inL rfl) rfl ?_
  refine WO.nil ?_
  refine WX.thenC ?_
  refine WC.ret ?_
  exact WX.ret1 rfl rfl ⟨_, rfl, by rw [hps], (Kp.drew _ w).trans hE2⟩
theorem searchIn (r : CRun) (b3 b6 : Nat) (fid : FuncId) (hfn : IsFn Try.prog fid) (cap : Array Value) (p : Slot → Bool) (w : World)
    (hrun : RunOk w r) (h3 : Own w b3 115 [.func (.func fid) #[] cap]) (h6 : Own w b6 49 [r.hdr]) (hin : InOk Try.prog w fid cap p) (i : Nat) (hi : i < r.sl.length) :
    CallsV Try.prog 63 #[.int .i64 (i : Nat), .pointer (some ⟨b3, 0, none⟩), .pointer (some ⟨b6, 0, none⟩)] w fun v w' => v = .bool (p r.sl[i]) ∧ Ext w w' := by
  refine calls_intro (args := [_, _, _]) Try.func63 rfl Try.ntmps63 rfl ?_
  refine WC.seq ?_
  refine WC.region ?_
  refine WL.step (ok_assign rfl) rfl ?_
  refine WL.nil ?_
  refine WX.thenC ?_
  refine WC.seq ?_
  refine WC.drawE [4, 5] 4 [(0, true), (1, true), (2, true), (3, true), (4, false), (5, false)] mixed (by kernel_rfl) (fun hS => ?_)
  refine WO.quiet rfl (fun _ hw => ok_load rfl one115 (Kp.cell hw (h3.cell 0) (fun f => f))) hS rfl ?_
  refine WO.quiet rfl (fun _ hw => ok_load rfl one49 (Kp.cell hw (h6.cell 0) (fun f => f))) hS rfl ?_
  refine WO.quiet rfl (fun _ _ => ok_move rfl) hS rfl ?_
  refine WO.quiet rfl (fun _ _ => ok_indexS _ rfl rfl rfl (by omega) Try.underlying49 sz54) hS rfl ?_
  refine WO.loudCall rfl (ok_call rfl rfl hfn) rfl (hin w.drew _ _ _ (Kp.drew _ _) (hrun.1 _ (List.getElem_mem hi)) (hrun.slot i hi)) ?_
  rintro v w2 ⟨rfl, hE2⟩
  refine ⟨(inL rfl), ?_⟩
  refine WO.loud rfl (ok_assign rfl) (inL rfl) rfl ?_
  refine WO.nil ?_
  refine WX.thenC ?_
  refine WC.ret ?_
  exact WX.ret1 rfl rfl ⟨_, rfl, rfl, (Kp.drew _ w).trans hE2⟩

end Go.Proofs.Try
