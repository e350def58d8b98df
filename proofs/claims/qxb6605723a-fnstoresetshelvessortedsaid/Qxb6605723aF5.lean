/- Walk: the law of after. -/
import Derived.Test.Qxb6605723aW9
set_option linter.unusedVariables false
set_option linter.unusedSimpArgs false
set_option maxRecDepth 100000
namespace Go.Sx
open Go.Pl
theorem cntF_after (runs : List (List Slot)) (k : List UInt8) : cntF (fun s => decide (0 < cmpK s.key k)) runs.flatten = (prs runs).countP (fun p => decide (cmpK p.1 k ≤ 0)) := by
  unfold cntF prs
  rw [List.countP_map]
  congr 1
  funext s
  simp only [Function.comp, ps]
  rw [← decide_not]
  exact decide_eq_decide.2 (by omega)
theorem cmpK_self (a : List UInt8) : cmpK a a = 0 := by
  rw [cmpK_val a a rfl]; simp [cmpN]
theorem drop_cons_get {α : Type} {L : List α} {j : Nat} {x : α} (h : L[j]? = some x) : L.drop j = x :: L.drop (j + 1) := by
  obtain ⟨hj, rfl⟩ := List.getElem?_eq_some_iff.1 h
  exact List.drop_eq_getElem_cons hj
end Go.Sx
namespace Go.Proofs.Try
open Go.Sx Go.Pl

set_option maxHeartbeats 2000000 in
theorem lawAfter (l : List Itm) (ho : OkI l) (a : Option Addr) (cap : Nat) (k : List UInt8) (hk : k.length = 20) (w : World) (hI : ItemsAt w a l) :
    CallsV Try.prog 5 #[.slice a l.length cap, .agg (kc k).toArray] w fun v w' => v = .bool true ∧ Ext w w' := by
  refine calls_intro (args := [_, _]) Try.func5 rfl Try.ntmps5 rfl ?_
  refine WC.seq ?_
  refine WC.region ?_
  refine WL.box (c := kc k) rfl rfl rfl ?_
  intro b3 w3 hb3 ho3 hk3 hs3
  refine WL.step (ok_assign rfl) rfl ?_
  refine WL.nil ?_
  refine WX.thenC ?_
  refine WC.seq ?_
  refine WC.seq ?_
  refine WC.region ?_
  refine WL.step (ok_move rfl) rfl ?_
  refine WL.step (ok_loadN rfl agg29 sz29 (by simp [hk]) (ho3.rd0)) rfl ?_
  refine WL.call (ok_callF rfl isfn27) rfl (bytesAfter l ho a cap _ _ (hI.ext hk3)) ?_
  rintro v w25 ⟨⟨z25, rfl, hz25⟩, hE25⟩
  refine WL.step (ok_not rfl) rfl ?_
  refine WL.nil ?_
  refine WX.thenC ?_
  refine WC.cond rfl (fun hc24 => ?_) (fun hc24 => ?_)
  ·
    refine WC.seq ?_
    refine WC.region ?_
    refine WL.step (ok_assign rfl) rfl ?_
    refine WL.nil ?_
    refine WX.thenC ?_
    refine WC.ret ?_
    refine WX.thenR ?_
    exact WX.ret1 rfl rfl ⟨_, rfl, rfl, hk3.trans hE25⟩
  ·
    have hnm := hz25 (by simpa using hc24)
    refine WC.skip ?_
    refine WX.thenC ?_
    refine WC.seq ?_
    refine WC.seq ?_
    refine WC.region ?_
    refine WL.step (ok_move rfl) rfl ?_
    refine WL.step (ok_lenSlice rfl Try.underlying57) rfl ?_
    refine WL.step (ok_gtr rfl rfl) rfl ?_
    refine WL.nil ?_
    refine WX.thenC ?_
    refine WC.cond rfl (fun hc27 => ?_) (fun hc27 => ?_)
    ·
      refine WC.seq ?_
      refine WC.region ?_
      refine WL.step (ok_assign rfl) rfl ?_
      refine WL.nil ?_
      refine WX.thenC ?_
      refine WC.ret ?_
      refine WX.thenR ?_
      exact WX.ret1 rfl rfl ⟨_, rfl, rfl, hk3.trans hE25⟩
    ·
      have hn4 : l.length ≤ 4096 := by have := of_decide_eq_false hc27; omega
      refine WC.skip ?_
      refine WX.thenC ?_
      refine WC.seq ?_
      refine WC.seq ?_
      refine WC.region ?_
      refine WL.step (ok_move rfl) rfl ?_
      refine WL.call (ok_callF rfl isfn28) rfl (itemsBytes l ho a cap (by omega) _ ((hI.ext hk3).ext hE25)) ?_
      rintro v w36 ⟨⟨z36, rfl⟩, hw36⟩
      subst hw36
      refine WL.step (ok_gtr rfl rfl) rfl ?_
      refine WL.nil ?_
      refine WX.thenC ?_
      refine WC.cond rfl (fun hc30 => ?_) (fun hc30 => ?_)
      ·
        refine WC.seq ?_
        refine WC.region ?_
        refine WL.step (ok_assign rfl) rfl ?_
        refine WL.nil ?_
        refine WX.thenC ?_
        refine WC.ret ?_
        refine WX.thenR ?_
        exact WX.ret1 rfl rfl ⟨_, rfl, rfl, hk3.trans hE25⟩
      ·
        refine WC.skip ?_
        refine WX.thenC ?_
        refine WC.seq ?_
        refine WC.region ?_
        refine WL.step (ok_move rfl) rfl ?_
        refine WL.call (ok_callF rfl isfn29) rfl (cloneItems l ho a cap hn4 _ ((hI.ext hk3).ext hE25)) ?_
        rintro v w42 ⟨a', cap', rfl, hI42, hfr42, hE42⟩
        have hEw42 : Ext w w42 := (hk3.trans hE25).trans hE42
        have h42 := (ho3.ext hE25).ext hE42
        obtain ⟨lo, hlo⟩ : ∃ lo, lo = w42.heap.size := ⟨_, rfl⟩
        have hT42 := hI42.low ho
        rw [← hlo] at hT42
        have hb4l : b3 < lo := by rw [hlo]; exact h42.lt
        have hwlo : w.heap.size ≤ lo := by rw [hlo]; exact hEw42.size
        refine WL.step (ok_assign rfl) rfl ?_
        refine WL.nil ?_
        refine WX.thenC ?_
        refine WC.seq ?_
        refine WC.region ?_
        refine WL.call (ok_callF rfl isfn30) rfl (newShelf _) ?_
        rintro v w43 ⟨sb, rfl, hsb, hO43, hE43⟩
        have hS0 : ShL lo w43 sb [] := ShL.new hO43 (by omega)
        have hlo43 : lo ≤ w43.heap.size := by rw [hlo]; exact hE43.size
        refine WL.step (ok_assign rfl) rfl ?_
        refine WL.nil ?_
        refine WX.thenC ?_
        refine WC.seq ?_
        refine WC.seq ?_
        refine WC.region ?_
        refine WL.step (ok_assign rfl) rfl ?_
        refine WL.nil ?_
        refine WX.thenC ?_
        refine WC.block ?_
        refine WC.loop (fun j : Nat => [(0, .slice a' l.length cap'), (3, .pointer (some ⟨b3, 0, none⟩)), (5, .pointer (some ⟨sb, 0, none⟩)), (6, .int .i64 (j : Nat))])
          (fun j w' => j ≤ l.length ∧ ∃ runs, ShL lo w' sb runs ∧ Fil runs ((l.take j).map pk) ∧ Kp (lo ≤ ·) w43 w') (fun j => l.length - j) 0 (by repeat (first | exact trivial | refine ⟨rfl, ?_⟩)) ?_ ?_
        · exact ⟨by omega, [], hS0, by simpa using Fil.nil, Kp.refl _ _⟩
        rintro j w2 ⟨hjn, runs, hSh, hF, hK⟩
        have hT2 := (hT42.kp (Kp.of_ext hE43)).kp hK
        have hI1 := hT2.at
        have h4b := hK.own (h42.ext hE43) (by omega)
        have hE0 : Ext w w2 := (hEw42.trans hE43).over hK (fun i hi e => by omega)
        refine WC.seq ?_
        refine WC.seq ?_
        refine WC.region ?_
        refine WL.step (ok_move rfl) rfl ?_
        refine WL.step (ok_move rfl) rfl ?_
        refine WL.step (ok_lenSlice rfl Try.underlying57) rfl ?_
        refine WL.step (ok_lss rfl rfl) rfl ?_
        refine WL.nil ?_
        refine WX.thenC ?_
        refine WC.cond rfl (fun hc37 => ?_) (fun hc37 => ?_)
        ·
          have hlt : j < l.length := by have := of_decide_eq_true hc37; omega
          have hrn : runs.length ≤ 1048576 := by have := hF.inv.runs_le; have := hF.len; simp at this; omega
          obtain ⟨b, off, rfl, hr⟩ := hI1.at hlt
          refine WC.skip ?_
          refine WX.thenC ?_
          refine WC.seq ?_
          refine WC.block ?_
          refine WC.drawE [12] 6 [(0, true), (1, true), (2, true), (3, true), (4, true), (5, true), (6, true), (7, true), (8, true), (9, true), (10, true), (11, true), (12, false)] mixed (by kernel_rfl) (fun hS => ?_)
          refine WO.quiet rfl (fun _ _ => ok_move rfl) hS rfl ?_
          refine WO.quiet rfl (fun _ _ => ok_move rfl) hS rfl ?_
          refine WO.quiet rfl (fun _ _ => ok_move rfl) hS rfl ?_
          refine WO.quiet rfl (fun _ _ => ok_indexS _ rfl rfl rfl (by omega) Try.underlying57 sz64) hS rfl ?_
          refine WO.quiet rfl (fun _ _ => ok_field rfl fld64_0) hS rfl ?_
          refine WO.quiet rfl (fun _ hw => ok_loadN rfl agg29 sz29 (by simp [ho _ (List.getElem_mem hlt)]) (Rd.kp (rd_key hr ho j hlt) hw (fun f => f))) hS rfl ?_
          refine WO.quiet rfl (fun _ _ => ok_move rfl) hS rfl ?_
          refine WO.quiet rfl (fun _ _ => ok_move rfl) hS rfl ?_
          refine WO.quiet rfl (fun _ _ => ok_indexS _ rfl rfl rfl (by omega) Try.underlying57 sz64) hS rfl ?_
          refine WO.quiet rfl (fun _ _ => ok_field rfl fld64_1) hS rfl ?_
          refine WO.quiet rfl (fun _ hw => ok_load rfl one9 (Kp.cell hw (rd_name hr ho j hlt) (fun f => f))) hS rfl ?_
          refine WO.quiet rfl (fun _ _ => build35 (ho _ (List.getElem_mem hlt)) rfl rfl) hS rfl ?_
          refine WO.loudCall rfl (ok_callF rfl isfn31) rfl (shelfPut l[j].key l[j].name [] none 0 (ho _ (List.getElem_mem hlt)) (hnm _ (List.getElem_mem hlt)) (by simp) _ (fun h => absurd rfl h) (hSh.ext (Kp.drew _ _)) (Nat.le_trans hlo43 hK.size) (hF.inv.mono (ho _ (List.getElem_mem hlt)) _) hF.inv.ne hF.inv.le hrn) ?_
          rintro v w62 ⟨rfl, hS62, hK62⟩
          refine ⟨(inL rfl), ?_⟩
          refine WO.nil ?_
          refine WX.blockN ?_
          refine WX.thenC ?_
          refine WC.region ?_
          refine WL.step (ok_move rfl) rfl ?_
          refine WL.step (ok_add ((j + 1 : Nat) : Int) rfl rfl (by omega) (by omega) (by omega)) rfl ?_
          refine WL.step (ok_assign rfl) rfl ?_
          refine WL.nil ?_
          exact WX.again (j + 1) (by repeat (first | exact trivial | refine ⟨rfl, ?_⟩)) ⟨by omega, _, hS62, by rw [map_take_succ l j hlt]; exact hF.put _ (ho _ (List.getElem_mem hlt)), (hK.trans (Kp.drew _ _)).trans hK62⟩ (by omega)
        ·
          have hge : j = l.length := by have := of_decide_eq_false hc37; omega
          have hF1 : Fil runs (l.map pk) := by rw [hge, List.take_length] at hF; exact hF
          have hdl := ded_length_le (l.map pk)
          rw [List.length_map] at hdl
          refine WC.exit ?_
          refine WX.thenE ?_
          refine WX.thenE ?_
          refine WX.blockHit ?_
          refine WX.thenC ?_
          refine WC.seq ?_
          refine WC.region ?_
          refine WL.step (ok_move rfl) rfl ?_
          refine WL.call (ok_callF rfl isfn32) rfl (sortedDistinct l ho a' cap' hn4 _ hI1) ?_
          rintro v w54 ⟨o, va, cv, g54, rfl, hS54, hg54, hox, hsrt, hperm, hE54⟩
          have hpr : prs runs = o.map (pa l) := srt_eq hF1.inv.srt hsrt hF1.inv.key (hF1.perm.trans hperm.symm)
          have hol : o.length = (ded (l.map pk)).length := by rw [← hperm.length_eq, List.length_map]
          have h4c := h4b.ext hE54
          refine WL.step (ok_assign rfl) rfl ?_
          refine WL.nil ?_
          refine WX.thenC ?_
          refine WC.seq ?_
          refine WC.region ?_
          refine WL.step (ok_assign rfl) rfl ?_
          refine WL.nil ?_
          refine WX.thenC ?_
          refine WC.seq ?_
          refine WC.seq ?_
          refine WC.region ?_
          refine WL.step (ok_assign rfl) rfl ?_
          refine WL.nil ?_
          refine WX.thenC ?_
          refine WC.block ?_
          refine WC.loop (fun x : Nat × Nat => [(0, .slice a' l.length cap'), (3, .pointer (some ⟨b3, 0, none⟩)), (5, .pointer (some ⟨sb, 0, none⟩)), (7, .slice va o.length cv), (8, .int .i64 (x.1 : Nat)), (9, .int .i64 (x.2 : Nat))])
            (fun x w' => x.2 ≤ o.length ∧ x.1 ≤ x.2 ∧ x.1 + ((o.map (pa l)).drop x.2).countP (fun p : Pr => decide (cmpK p.1 k ≤ 0)) = (o.map (pa l)).countP (fun p : Pr => decide (cmpK p.1 k ≤ 0)) ∧ Ext w54 w') (fun x => o.length - x.2) (0, 0) (by repeat (first | exact trivial | refine ⟨rfl, ?_⟩)) ?_ ?_
          · exact ⟨by simp, by simp, by simp, Kp.refl _ _⟩
          rintro ⟨c, j⟩ w3 ⟨hjn2, hcj1, hcc, hEc⟩
          dsimp only at hjn2 hcj1 hcc hEc
          dsimp only
          have hI2 := hI1.ext hE54
          refine WC.seq ?_
          refine WC.seq ?_
          refine WC.region ?_
          refine WL.step (ok_move rfl) rfl ?_
          refine WL.step (ok_move rfl) rfl ?_
          refine WL.step (ok_lenSlice rfl Try.underlying43) rfl ?_
          refine WL.step (ok_lss rfl rfl) rfl ?_
          refine WL.nil ?_
          refine WX.thenC ?_
          refine WC.cond rfl (fun hc58 => ?_) (fun hc58 => ?_)
          ·
            have hlt : j < o.length := by have := of_decide_eq_true hc58; omega
            obtain ⟨ob, ocap, osp, heqo, hOo, hol1, hoc, hocc, hgo⟩ := (hS54.kp hEc (fun _ _ f => f)).some (by omega)
            cases heqo
            obtain ⟨xb, hxb⟩ : ∃ x, x = o[j] := ⟨_, rfl⟩
            have hxl : xb < l.length := by rw [hxb]; exact hox _ (List.getElem_mem _)
            have hcx : w3.cell? ⟨ob, 0 + j * 1, none⟩ = some (.int .i64 (xb : Nat)) := by rw [hxb]; exact rd_nat hOo.rd0.append_left j hlt
            obtain ⟨b, off, rfl, hr⟩ := (hI2.ext hEc).at hxl
            have hdj : (o.map (pa l)).drop j = pk l[xb] :: (o.map (pa l)).drop (j + 1) := drop_cons_get (by rw [← pa_eq l xb hxl, hxb]; simp [hlt])
            refine WC.skip ?_
            refine WX.thenC ?_
            refine WC.seq ?_
            refine WC.block ?_
            refine WC.seq ?_
            refine WC.drawE [9, 10] 8 [(0, true), (1, true), (2, true), (3, true), (4, true), (5, true), (6, true), (7, true), (8, true), (9, false), (10, false)] mixed (by kernel_rfl) (fun hS => ?_)
            refine WO.quiet rfl (fun _ _ => ok_move rfl) hS rfl ?_
            refine WO.quiet rfl (fun _ _ => ok_move rfl) hS rfl ?_
            refine WO.quiet rfl (fun _ _ => ok_move rfl) hS rfl ?_
            refine WO.quiet rfl (fun _ _ => ok_indexS _ rfl rfl rfl (by omega) Try.underlying43 sz3) hS rfl ?_
            refine WO.quiet rfl (fun _ hw => ok_load rfl one3 (Kp.cell hw (hcx) (fun f => f))) hS rfl ?_
            refine WO.quiet rfl (fun _ _ => ok_indexS xb rfl rfl rfl (by omega) Try.underlying57 sz64) hS rfl ?_
            refine WO.quiet rfl (fun _ _ => ok_field rfl fld64_0) hS rfl ?_
            refine WO.quiet rfl (fun _ hw => ok_loadN rfl agg29 sz29 (by simp [ho _ (List.getElem_mem hxl)]) (Rd.kp (rd_key hr ho xb hxl) hw (fun f => f))) hS rfl ?_
            refine WO.quiet rfl (fun _ hw => ok_loadN rfl agg29 sz29 (by simp [hk]) (Rd.kp ((h4c.ext hEc).rd0) hw (fun f => f))) hS rfl ?_
            refine WO.loudCall rfl (ok_callF rfl isfn16) rfl (cmpKey l[xb].key k (ho _ (List.getElem_mem hxl)) hk _) ?_
            rintro v w70 ⟨rfl, hE70⟩
            refine ⟨(inL rfl), ?_⟩
            refine WO.loud rfl (ok_leq rfl rfl) (inL rfl) rfl ?_
            refine WO.nil ?_
            refine WX.thenC ?_
            refine WC.cond rfl (fun hc71 => ?_) (fun hc71 => ?_)
            ·
              refine WC.region ?_
              refine WL.step (ok_move rfl) rfl ?_
              refine WL.step (ok_add ((c + 1 : Nat) : Int) rfl rfl (by omega) (by omega) (by omega)) rfl ?_
              refine WL.step (ok_assign rfl) rfl ?_
              refine WL.nil ?_
              refine WX.blockN ?_
              refine WX.thenC ?_
              refine WC.region ?_
              refine WL.step (ok_move rfl) rfl ?_
              refine WL.step (ok_add ((j + 1 : Nat) : Int) rfl rfl (by omega) (by omega) (by omega)) rfl ?_
              refine WL.step (ok_assign rfl) rfl ?_
              refine WL.nil ?_
              exact WX.again (c + 1, j + 1) (by repeat (first | exact trivial | refine ⟨rfl, ?_⟩)) ⟨by show j + 1 ≤ _; omega, by show c + 1 ≤ j + 1; omega, cntPos hdj (show decide (cmpK (pk l[xb]).1 k ≤ 0) = true from hc71) hcc, (hEc.trans (Kp.drew _ _)).trans hE70⟩ (by show _ - (j + 1) < _ - j; omega)
            ·
              refine WC.skip ?_
              refine WX.blockN ?_
              refine WX.thenC ?_
              refine WC.region ?_
              refine WL.step (ok_move rfl) rfl ?_
              refine WL.step (ok_add ((j + 1 : Nat) : Int) rfl rfl (by omega) (by omega) (by omega)) rfl ?_
              refine WL.step (ok_assign rfl) rfl ?_
              refine WL.nil ?_
              exact WX.again (c, j + 1) (by repeat (first | exact trivial | refine ⟨rfl, ?_⟩)) ⟨by show j + 1 ≤ _; omega, by show c ≤ j + 1; omega, cntNeg hdj (show decide (cmpK (pk l[xb]).1 k ≤ 0) = false from hc71) hcc, (hEc.trans (Kp.drew _ _)).trans hE70⟩ (by show _ - (j + 1) < _ - j; omega)
          ·
            have hge2 : j = o.length := by have := of_decide_eq_false hc58; omega
            have hcr : c = cntF (fun s => decide (0 < cmpK s.key k)) runs.flatten := by rw [hge2, List.drop_of_length_le (by simp)] at hcc; rw [cntF_after, hpr]; simpa using hcc
            have hSh1 := hSh
            have hEx := hE54.trans hEc
            have hS1 := hSh1.ext hEx
            obtain ⟨hd, rs, g, hOs, hRs, hnf, rfl, hlsb, hlfp⟩ := hS1
            obtain ⟨ha, hcap, rfl⟩ := hRs.hdl
            have hrsl : rs.length ≤ l.length := by have := hF1.inv.runs_le; have := hF1.len; rw [slots_length] at *; simp at this; omega
            have hlen : (lens (slots rs)).length = rs.length := by simp [lens, slots]
            have hsmo : sumL (lens (slots rs)) = o.length := by rw [hF1.sum, hol]
            have hsm : sumL (lens (slots rs)) ≤ 4096 := by have := hF1.sum; omega
            have hS3 := hS54.kp hEc (fun _ _ f => f)
            refine WC.exit ?_
            refine WX.thenE ?_
            refine WX.thenE ?_
            refine WX.blockHit ?_
            refine WX.thenC ?_
            refine WC.seq ?_
            refine WC.region ?_
            refine WL.step (ok_move rfl) rfl ?_
            refine WL.call (ok_callF rfl isfn21) rfl (shelfRuns sb 0 _ _ (by rw [hOs.cell]; rfl)) ?_
            rintro v w75 ⟨rfl, hw75⟩
            subst hw75
            refine WL.step (ok_assign rfl) rfl ?_
            refine WL.nil ?_
            refine WX.thenC ?_
            refine WC.seq ?_
            refine WC.seq ?_
            refine WC.region ?_
            refine WL.step (ok_move rfl) rfl ?_
            refine WL.step (ok_lenSlice rfl Try.underlying45) rfl ?_
            refine WL.step (ok_move rfl) rfl ?_
            refine WL.step (ok_lenSlice rfl Try.underlying57) rfl ?_
            refine WL.step (ok_gtr rfl rfl) rfl ?_
            refine WL.nil ?_
            refine WX.thenC ?_
            refine WC.condFb rfl (decide_eq_false (by omega)) ?_
            refine WC.skip ?_
            refine WX.thenC ?_
            refine WC.seq ?_
            refine WC.region ?_
            refine WL.step (ok_move rfl) rfl ?_
            refine WL.step (ok_lenSlice rfl Try.underlying45) rfl ?_
            refine WL.rew 82 (.int .i64 ((lens (slots rs)).length : Nat)) rfl (by rw [hlen]) ?_
            refine WL.make ((lens (slots rs)).length) elt43 rfl (by omega) (by omega) rfl ?_
            intro b83 w83 c83 hb83 ho83 hl83 hz83 hk83 hs83
            refine WL.step (ok_assign rfl) rfl ?_
            refine WL.nil ?_
            refine WX.thenC ?_
            refine WC.seq ?_
            refine WC.region ?_
            refine WL.step (ok_assign rfl) rfl ?_
            refine WL.nil ?_
            refine WX.thenC ?_
            refine WC.seq ?_
            refine WC.seq ?_
            refine WC.region ?_
            refine WL.step (ok_assign rfl) rfl ?_
            refine WL.nil ?_
            refine WX.thenC ?_
            refine WC.block ?_
            refine WC.loop (fun j : Nat => [(0, .slice a' l.length cap'), (3, .pointer (some ⟨b3, 0, none⟩)), (5, .pointer (some ⟨sb, 0, none⟩)), (7, .slice va o.length cv), (8, .int .i64 (c : Nat)), (10, .slice ha rs.length hcap), (11, .slice (some ⟨b83, 0, none⟩) (lens (slots rs)).length (lens (slots rs)).length), (12, .int .i64 (sumL ((lens (slots rs)).take j) : Nat)), (13, .int .i64 (j : Nat))])
              (fun j w' => j ≤ rs.length ∧ (∃ rest, Own w' b83 3 (nc ((lens (slots rs)).take j) ++ rest) ∧ rest.length = rs.length - j) ∧ Ext w75 w') (fun j => rs.length - j) 0 (by repeat (first | exact trivial | refine ⟨rfl, ?_⟩)) ?_ ?_
            · exact ⟨by omega, ⟨c83, by simpa [nc] using ho83, by simp [hl83, hlen]⟩, hk83⟩
            rintro j w4 ⟨hjn3, ⟨rest, hOl, hrest⟩, hE2⟩
            refine WC.seq ?_
            refine WC.seq ?_
            refine WC.region ?_
            refine WL.step (ok_move rfl) rfl ?_
            refine WL.step (ok_move rfl) rfl ?_
            refine WL.step (ok_lenSlice rfl Try.underlying45) rfl ?_
            refine WL.step (ok_lss rfl rfl) rfl ?_
            refine WL.nil ?_
            refine WX.thenC ?_
            refine WC.cond rfl (fun hc87 => ?_) (fun hc87 => ?_)
            ·
              have hlt : j < rs.length := by have := of_decide_eq_true hc87; omega
              obtain ⟨gb, hcap', spg, heq, rfl, hOg, hcl⟩ := (hRs.ext hE2).hd (by intro e; rw [e] at hlt; simp at hlt)
              cases heq
              refine WC.skip ?_
              refine WX.thenC ?_
              refine WC.seq ?_
              refine WC.block ?_
              refine WC.seq ?_
              refine WC.region ?_
              refine WL.step (ok_move rfl) rfl ?_
              refine WL.step (ok_move rfl) rfl ?_
              refine WL.step (ok_move rfl) rfl ?_
              refine WL.step (ok_move rfl) rfl ?_
              refine WL.step (ok_indexS _ rfl rfl rfl (by omega) Try.underlying45 sz49) rfl ?_
              refine WL.step (ok_load rfl one49 (rd_hdr hOg j hlt)) rfl ?_
              refine WL.step (ok_lenSlice rfl Try.underlying49) rfl ?_
              refine WL.step (ok_indexS _ rfl rfl rfl (by omega) Try.underlying43 sz3) rfl ?_
              refine WL.store rfl rfl sz3 (hOl) (by simp [Value.cells]) (by simp [Value.cells]; omega) (by simp [Value.cells, Value.oneCell']) ?_
              intro wr28 hor28 hkr28 hsr28
              have hor28' : Own wr28 b83 3 (nc ((lens (slots rs)).take (j + 1)) ++ rest.drop 1) := by
                have := hor28
                simp only [Value.cells] at this
                rw [← nc_take_succ (lens (slots rs)) j (by omega) rest rs[j].sl.length (by simp [lens, slots])]
                exact this
              have hsj := sumL_take_succ (lens (slots rs)) j (by omega)
              have hsj2 : (lens (slots rs))[j]'(by omega) = rs[j].sl.length := by simp [lens, slots]
              rw [hsj2] at hsj
              have hsj3 := sumL_take_le (lens (slots rs)) (j + 1)
              have hE28 : Ext w75 wr28 := hE2.over hkr28 (fun i hi e => by omega)
              refine WL.nil ?_
              refine WX.thenC ?_
              refine WC.seq ?_
              refine WC.region ?_
              refine WL.step (ok_assign rfl) rfl ?_
              refine WL.nil ?_
              refine WX.thenC ?_
              refine WC.block ?_
              refine WC.loop (fun i : Nat => [(0, .slice a' l.length cap'), (3, .pointer (some ⟨b3, 0, none⟩)), (5, .pointer (some ⟨sb, 0, none⟩)), (7, .slice va o.length cv), (8, .int .i64 (c : Nat)), (10, .slice (some ⟨gb, 0, none⟩) rs.length hcap), (11, .slice (some ⟨b83, 0, none⟩) (lens (slots rs)).length (lens (slots rs)).length), (12, .int .i64 ((sumL ((lens (slots rs)).take j) + i : Nat) : Int)), (13, .int .i64 (j : Nat)), (14, .int .i64 (i : Nat))])
                (fun i w' => i ≤ rs[j].sl.length ∧ Ext wr28 w') (fun i => rs[j].sl.length - i) 0 (by repeat (first | exact trivial | refine ⟨rfl, ?_⟩)) ?_ ?_
              · exact ⟨by omega, Kp.refl _ _⟩
              rintro i w6 ⟨hin, hE6⟩
              have hE75 : Ext w75 w6 := hE28.trans hE6
              obtain ⟨gb6, hcap6, spg6, heq6, hg6, hOg6, hcl6⟩ := (hRs.ext hE75).hd (by intro e; rw [e] at hlt; simp at hlt)
              cases heq6
              have hrun := (hRs.ext hE75).run rs[j] (List.getElem_mem hlt)
              refine WC.seq ?_
              refine WC.seq ?_
              refine WC.region ?_
              refine WL.step (ok_move rfl) rfl ?_
              refine WL.step (ok_move rfl) rfl ?_
              refine WL.step (ok_move rfl) rfl ?_
              refine WL.step (ok_indexS _ rfl rfl rfl (by omega) Try.underlying45 sz49) rfl ?_
              refine WL.step (ok_load rfl one49 (rd_hdr hOg6 j hlt)) rfl ?_
              refine WL.step (ok_lenSlice rfl Try.underlying49) rfl ?_
              refine WL.step (ok_lss rfl rfl) rfl ?_
              refine WL.nil ?_
              refine WX.thenC ?_
              refine WC.cond rfl (fun hc104 => ?_) (fun hc104 => ?_)
              ·
                have hi : i < rs[j].sl.length := by have := of_decide_eq_true hc104; omega
                obtain ⟨pos, hpos⟩ : ∃ p, p = sumL ((lens (slots rs)).take j) + i := ⟨_, rfl⟩
                have hposl : pos < o.length := by omega
                obtain ⟨ob, ocap, osp, heqo, hOo, hol1, hoc, hocc, hgo⟩ := (hS3.kp hE75 (fun _ _ f => f)).some (by omega)
                cases heqo
                obtain ⟨xb, hxb⟩ : ∃ x, x = o[pos] := ⟨_, rfl⟩
                have hxl : xb < l.length := by rw [hxb]; exact hox _ (List.getElem_mem _)
                have hcx : w6.cell? ⟨ob, 0 + pos * 1, none⟩ = some (.int .i64 (xb : Nat)) := by rw [hxb]; exact rd_nat hOo.rd0.append_left pos hposl
                obtain ⟨ib, ioff, rfl, hr⟩ := ((hI2.ext hEc).ext hE75).at hxl
                have hsame : ps rs[j].sl[i] = pk l[xb] := by
                  have h1 := flat_get (slots rs) j i (by rw [slots_length]; exact hlt) (by simpa [slots] using hi)
                  have h2 : (prs (slots rs))[pos]? = some (ps rs[j].sl[i]) := by
                    unfold prs
                    rw [List.getElem?_map, hpos, h1]
                    simp [slots]
                  rw [hpr, List.getElem?_map, List.getElem?_eq_getElem hposl, ← hxb] at h2
                  simp only [Option.map_some, Option.some.injEq] at h2
                  rw [← h2, pa_eq l xb hxl]
                have hsk : rs[j].sl[i].key = l[xb].key := congrArg Prod.fst hsame
                have hsn : rs[j].sl[i].name.toList = l[xb].name.toList := congrArg Prod.snd hsame
                have hokS := hrun.1 _ (List.getElem_mem hi)
                have hik := ho _ (List.getElem_mem hxl)
                have hslen : rs[j].sl[i].cells.length = 23 := Slot.len hrun.1 _ (List.getElem_mem hi)
                have helen : rs[j].sl[i].ent.length = 22 := by simp [Slot.ent, hokS.1]
                have hilen : l[xb].cells.length = 21 := Itm.len ho _ (List.getElem_mem hxl)
                refine WC.skip ?_
                refine WX.thenC ?_
                refine WC.seq ?_
                refine WC.block ?_
                refine WC.seq ?_
                refine WC.seq ?_
                refine WC.region ?_
                refine WL.step (ok_move rfl) rfl ?_
                refine WL.step (ok_move rfl) rfl ?_
                refine WL.step (ok_lenSlice rfl Try.underlying43) rfl ?_
                refine WL.step (ok_geq rfl rfl) rfl ?_
                refine WL.nil ?_
                refine WX.thenC ?_
                refine WC.condFb rfl (decide_eq_false (by omega)) ?_
                refine WC.skip ?_
                refine WX.thenC ?_
                refine WC.seq ?_
                refine WC.region ?_
                refine WL.step (ok_move rfl) rfl ?_
                refine WL.step (ok_move rfl) rfl ?_
                refine WL.step (ok_move rfl) rfl ?_
                refine WL.step (ok_indexS pos rfl rfl (by rw [hpos]) (by omega) Try.underlying43 sz3) rfl ?_
                refine WL.step (ok_load rfl one3 (hcx)) rfl ?_
                refine WL.step (ok_indexS xb rfl rfl rfl (by omega) Try.underlying57 sz64) rfl ?_
                refine WL.step (ok_loadN rfl agg64 sz64 hilen (Rd.elem hr (Itm.len ho) xb hxl)) rfl ?_
                refine WL.alloc zero64 rfl ?_
                intro b15 w15 hb15 ho15 hk15 hs15
                refine WL.store rfl rfl sz64 (ho15) (by simpa [Value.cells] using hilen) (by simp [Value.cells, hilen]) itm_one ?_
                intro wr34 hor34 hkr34 hsr34
                have h15 : Own wr34 b15 64 l[xb].cells := by
                  have := hor34
                  simp only [Value.cells] at this
                  rw [splice_all _ _ (by simp [hilen])] at this
                  exact this
                have hE34 : Ext w6 wr34 := hk15.over hkr34 (fun i hi e => by omega)
                refine WL.nil ?_
                refine WX.thenC ?_
                refine WC.seq ?_
                refine WC.region ?_
                refine WL.step (ok_move rfl) rfl ?_
                refine WL.step (ok_move rfl) rfl ?_
                refine WL.step (ok_indexS _ rfl rfl rfl (by omega) Try.underlying45 sz49) rfl ?_
                refine WL.step (ok_load rfl one49 (rd_hdr (hOg6.ext hE34) j hlt)) rfl ?_
                refine WL.step (ok_move rfl) rfl ?_
                refine WL.step (ok_indexS i rfl rfl rfl (by omega) Try.underlying49 sz54) rfl ?_
                refine WL.step (ok_loadN rfl agg54 sz54 hslen (((hrun.slot i hi).kp hE34 (fun f => f)))) rfl ?_
                refine WL.call (ok_callF rfl isfn24) rfl (slotEntry rs[j].sl[i] hokS _) ?_
                rintro v w125 ⟨rfl, hE125⟩
                refine WL.alloc zero35 rfl ?_
                intro b16 w16 hb16 ho16 hk16 hs16
                refine WL.store rfl rfl sz35 (ho16) (by simpa [Value.cells] using helen) (by simp [Value.cells, helen]) (ent_one hokS) ?_
                intro wr35 hor35 hkr35 hsr35
                have h16 : Own wr35 b16 35 rs[j].sl[i].ent := by
                  have := hor35
                  simp only [Value.cells] at this
                  rw [splice_all _ _ (by simp [helen])] at this
                  exact this
                have hE35 : Ext wr34 wr35 := (hE125.trans hk16).over hkr35 (fun i hi e => by have := hE125.size; omega)
                have h15b := h15.ext hE35
                refine WL.nil ?_
                refine WX.thenC ?_
                refine WC.seq ?_
                refine WC.seq ?_
                refine WC.region ?_
                refine WL.step (ok_field rfl fld35_0) rfl ?_
                refine WL.step (ok_loadN rfl agg33 sz33 (by simp [hokS.1]) (rd_ekey h16.rd0)) rfl ?_
                refine WL.step (ok_field rfl fld64_0) rfl ?_
                refine WL.step (ok_loadN rfl agg29 sz29 (by simp [hik]) (rd_ikey h15b.rd0)) rfl ?_
                refine WL.call (ok_callF rfl isfn16) rfl (cmpKey rs[j].sl[i].key l[xb].key hokS.1 hik _) ?_
                rintro v w130 ⟨rfl, hE130⟩
                have hE36 : Ext w6 w130 := (hE34.trans hE35).trans hE130
                refine WL.step (ok_neq rfl rfl) rfl ?_
                refine WL.step (ok_move rfl) rfl ?_
                refine WL.rew 132 (.bool false) rfl (congrArg Value.bool (by rw [hsk, cmpK_self]; rfl)) ?_
                refine WL.on rfl rfl ?_
                refine WL.step (ok_field rfl fld35_1) rfl ?_
                refine WL.on rfl rfl ?_
                refine WL.step (ok_load rfl one9 (rd_ename (h16.ext hE130).rd0 hokS.1)) rfl ?_
                refine WL.on rfl rfl ?_
                refine WL.step (ok_field rfl fld64_1) rfl ?_
                refine WL.on rfl rfl ?_
                refine WL.step (ok_load rfl one9 (rd_iname (h15b.ext hE130).rd0 hik)) rfl ?_
                refine WL.on rfl rfl ?_
                refine WL.step (ok_neqS rfl rfl) rfl ?_
                refine WL.step (ok_pickF rfl rfl) rfl ?_
                refine WL.nil ?_
                refine WX.thenC ?_
                refine WC.condFb rfl (by rw [hsn]; simp) ?_
                refine WC.skip ?_
                refine WX.thenC ?_
                refine WC.region ?_
                refine WL.step (ok_move rfl) rfl ?_
                refine WL.step (ok_add ((sumL ((lens (slots rs)).take j) + (i + 1) : Nat) : Int) rfl rfl (by omega) (by omega) (by omega)) rfl ?_
                refine WL.step (ok_assign rfl) rfl ?_
                refine WL.nil ?_
                refine WX.blockN ?_
                refine WX.thenC ?_
                refine WC.region ?_
                refine WL.step (ok_move rfl) rfl ?_
                refine WL.step (ok_add ((i + 1 : Nat) : Int) rfl rfl (by omega) (by omega) (by omega)) rfl ?_
                refine WL.step (ok_assign rfl) rfl ?_
                refine WL.nil ?_
                exact WX.again (i + 1) (by repeat (first | exact trivial | refine ⟨rfl, ?_⟩)) ⟨by omega, hE6.trans hE36⟩ (by omega)
              ·
                have hie : i = rs[j].sl.length := by have := of_decide_eq_false hc104; omega
                have hpe : sumL ((lens (slots rs)).take j) + i = sumL ((lens (slots rs)).take (j + 1)) := by omega
                rw [hpe]
                refine WC.exit ?_
                refine WX.thenE ?_
                refine WX.thenE ?_
                refine WX.blockHit ?_
                refine WX.blockN ?_
                refine WX.thenC ?_
                refine WC.region ?_
                refine WL.step (ok_move rfl) rfl ?_
                refine WL.step (ok_add ((j + 1 : Nat) : Int) rfl rfl (by omega) (by omega) (by omega)) rfl ?_
                refine WL.step (ok_assign rfl) rfl ?_
                refine WL.nil ?_
                exact WX.again (j + 1) (by repeat (first | exact trivial | refine ⟨rfl, ?_⟩)) ⟨by omega, ⟨rest.drop 1, hor28'.ext hE6, by simp [hrest]; omega⟩, hE28.trans hE6⟩ (by omega)
            ·
              have hge3 : j = rs.length := by have := of_decide_eq_false hc87; omega
              have hheld : sumL ((lens (slots rs)).take j) = o.length := by rw [hge3, sumL_take_all _ _ (by omega), hsmo]
              have hRl : Rd w4 b83 0 (nc (lens (slots rs))) := by rw [hge3, ← hlen, List.take_length] at hOl; exact hOl.rd0.append_left
              refine WC.exit ?_
              refine WX.thenE ?_
              refine WX.thenE ?_
              refine WX.blockHit ?_
              refine WX.thenC ?_
              refine WC.seq ?_
              refine WC.seq ?_
              refine WC.region ?_
              refine WL.step (ok_move rfl) rfl ?_
              refine WL.step (ok_move rfl) rfl ?_
              refine WL.step (ok_lenSlice rfl Try.underlying43) rfl ?_
              refine WL.step (ok_neq rfl rfl) rfl ?_
              refine WL.step (ok_move rfl) rfl ?_
              refine WL.rew 145 (.bool false) rfl (congrArg Value.bool (by rw [hheld]; simp)) ?_
              refine WL.on rfl rfl ?_
              refine WL.step (ok_move rfl) rfl ?_
              refine WL.on rfl rfl ?_
              refine WL.call (ok_callF rfl isfn23) rfl (runsBounded (lens (slots rs)) hF1.inv.bd b83 0 _ (by omega) _ hRl) ?_
              rintro v w147 ⟨rfl, hE147⟩
              refine WL.on rfl rfl ?_
              refine WL.step (ok_not rfl) rfl ?_
              refine WL.step (ok_pickF rfl rfl) rfl ?_
              refine WL.nil ?_
              refine WX.thenC ?_
              refine WC.condFb rfl rfl ?_
              refine WC.skip ?_
              refine WX.thenC ?_
              refine WC.seq ?_
              refine WC.region ?_
              refine WL.step (ok_move rfl) rfl ?_
              refine WL.step (ok_move rfl) rfl ?_
              refine WL.call (ok_callF rfl isfn33) rfl (placeOfW (lens (slots rs)) c b83 0 _ (by omega) (by omega) (by omega) _ (hRl.kp hE147 (fun f => f))) ?_
              rintro v w153 ⟨rfl, hE153⟩
              have hEz := (hE2.trans hE147).trans hE153
              have hEy := hEx.trans hEz
              refine WL.step (ok_move rfl) rfl ?_
              refine WL.step (ok_extract rfl rfl) rfl ?_
              refine WL.step (ok_extract rfl rfl) rfl ?_
              refine WL.step (ok_assign rfl) rfl ?_
              refine WL.step (ok_assign rfl) rfl ?_
              refine WL.nil ?_
              refine WX.thenC ?_
              refine WC.seq ?_
              refine WC.region ?_
              refine WL.step (ok_move rfl) rfl ?_
              refine WL.step (ok_loadN rfl agg29 sz29 (by simp [hk]) ((h4b.ext hEy).rd0)) rfl ?_
              refine WL.call (ok_callF rfl isfn34) rfl (shelfAfter k hk _ (hSh1.ext hEy) (hF1.inv.monoA hk) hF1.inv.ne (fun r hr => Nat.le_trans (hF1.inv.le r hr) (by decide)) (by rw [slots_length]; omega)) ?_
              rintro v w159 ⟨r, i, hpl, rfl, hE159⟩
              have hplc : placeOf (lens (slots rs)) c = (r, i) := by rw [hcr]; exact hpl
              refine WL.step (ok_move rfl) rfl ?_
              refine WL.step (ok_extract rfl rfl) rfl ?_
              refine WL.step (ok_extract rfl rfl) rfl ?_
              refine WL.step (ok_assign rfl) rfl ?_
              refine WL.step (ok_assign rfl) rfl ?_
              refine WL.nil ?_
              refine WX.thenC ?_
              refine WC.seq ?_
              refine WC.region ?_
              refine WL.step (ok_move rfl) rfl ?_
              refine WL.step (ok_move rfl) rfl ?_
              refine WL.step (ok_eql rfl rfl) rfl ?_
              refine WL.step (ok_move rfl) rfl ?_
              refine WL.rew 165 (.bool true) rfl (congrArg Value.bool (decide_eq_true (by rw [hplc]))) ?_
              refine WL.on rfl rfl ?_
              refine WL.step (ok_move rfl) rfl ?_
              refine WL.on rfl rfl ?_
              refine WL.step (ok_move rfl) rfl ?_
              refine WL.on rfl rfl ?_
              refine WL.step (ok_eql rfl rfl) rfl ?_
              refine WL.step (ok_pickT rfl rfl) rfl ?_
              refine WL.step (ok_assign rfl) rfl ?_
              refine WL.nil ?_
              refine WX.thenC ?_
              refine WC.ret ?_
              exact WX.ret1 rfl rfl ⟨_, rfl, congrArg Value.bool (decide_eq_true (by rw [hplc])), (hE0.trans hEy).trans hE159⟩

end Go.Proofs.Try
