/- Walks: a run dropped, merged, shrunk; an entry taken. -/
import Derived.Test.Qxb6605723aTak
set_option linter.unusedVariables false
set_option linter.unusedSimpArgs false
set_option maxRecDepth 100000
namespace Go.Sx
open Go.Pl
theorem hdrs_ones (rs : List CRun) : ∀ u ∈ rs.map CRun.hdr, u.oneCell' = true := by
  intro u hu
  obtain ⟨x, _, rfl⟩ := List.mem_map.1 hu
  rfl
theorem take_cells {sl : List Slot} (hs : OkS sl) (sp z : List Value) (i : Nat) (hi : i < sl.length) (hz : z.length = 23) :
    splice (splice (encS sl ++ sp) (0 + i * 23) (encS (sl.drop (i + 1)))) (0 + (sl.length - 1) * 23) z = encS (sl.eraseIdx i) ++ (z ++ sp) := by
  have h1 : sl = sl.take i ++ sl[i] :: sl.drop (i + 1) := by rw [List.getElem_cons_drop, List.take_append_drop]
  have hl : (encS (sl.take i)).length = i * 23 := by rw [encS_length (hs.take i), List.length_take, Nat.min_eq_left (by omega)]
  have hl2 : (sl[i]).cells.length = 23 := Slot.len hs _ (List.getElem_mem hi)
  have hl3 : (encS (sl.drop (i + 1))).length = (sl.length - (i + 1)) * 23 := by rw [encS_length (hs.drop (i + 1)), List.length_drop]
  have he : encS sl = encS (sl.take i) ++ (sl[i].cells ++ encS (sl.drop (i + 1))) := by
    have := congrArg encS h1
    rw [encS_append, encS_cons] at this
    exact this
  rw [he, List.append_assoc, splice_mid _ _ _ _ (by rw [hl]; omega), List.eraseIdx_eq_take_drop_succ, encS_append]
  have hd : (sl[i].cells ++ encS (sl.drop (i + 1)) ++ sp).drop (encS (sl.drop (i + 1))).length = ((sl[i].cells ++ encS (sl.drop (i + 1))).drop (encS (sl.drop (i + 1))).length) ++ sp := by
    rw [List.drop_append_of_le_length (by simp)]
  rw [hd, splice_mid (encS (sl.take i) ++ encS (sl.drop (i + 1))) _ _ _ (by rw [List.length_append, hl, hl3]; omega)]
  have hq : ((sl[i].cells ++ encS (sl.drop (i + 1))).drop (encS (sl.drop (i + 1))).length).length = 23 := by simp [hl2]
  generalize (sl[i].cells ++ encS (sl.drop (i + 1))).drop (encS (sl.drop (i + 1))).length = Y at hq
  have h9 : (Y ++ sp).drop z.length = sp := by rw [hz, ← hq]; simp
  rw [h9]
  simp
end Go.Sx
namespace Go.Proofs.Try
open Go.Sx Go.Pl

theorem dropRunW (rs : List CRun) (hd : Value) (g : Option Nat) (sb so : Nat) (e0 : TypeId) (c : List Value) (r : Nat) (w : World)
    (hO : Own w sb e0 c) (hc : c[so]? = some hd) (hR : RunsAt w hd rs g) (hsb : sb ∉ fp g rs) (hr : r < rs.length) (hn : rs.length ≤ 1048576) :
    CallsV Try.prog 71 #[.pointer (some ⟨sb, so, none⟩), .int .i64 (r : Nat)] w fun v w' => v = .tuple #[] ∧ ∃ hd',
      Own w' sb e0 (c.set so hd') ∧ RunsAt w' hd' (rs.eraseIdx r) g ∧ Kp (fun k => k = sb ∨ k ∈ fp g rs) w w' := by
  obtain ⟨gb, hcap, spg, rfl, rfl, hOg, hcl⟩ := hR.hd (by intro e; rw [e] at hr; simp at hr)
  have hso := lt_of_get hc
  have hcell : w.cell? ⟨sb, so, none⟩ = some (.slice (some ⟨gb, 0, none⟩) rs.length hcap) := by rw [hO.cell]; exact hc
  have e3 : sb ≠ gb := fun h => hsb (mem_fp.2 (.inl (by rw [h])))
  have hAl : (rs.map CRun.hdr).length = rs.length := by simp
  have hmin : Nat.min (rs.length - (r + 1)) (rs.length - r) = rs.length - (r + 1) := by show min _ _ = _; omega
  have hgbl := hOg.lt
  refine calls_intro (args := [_, _]) Try.func71 rfl Try.ntmps71 rfl ?_
  refine WC.seq ?_
  refine WC.drawE [13] 6 [(0, true), (1, true), (2, true), (3, true), (4, true), (5, true), (6, true), (7, true), (8, true), (9, true), (10, true), (11, true), (12, true), (13, false)] mixed (by kernel_rfl) (fun hS => ?_)
  refine WO.quiet rfl (fun _ _ => ok_move rfl) hS rfl ?_
  refine WO.quiet rfl (fun _ _ => ok_nilCheck rfl) hS rfl ?_
  refine WO.quiet rfl (fun _ _ => ok_field rfl fld80_0) hS rfl ?_
  refine WO.quiet rfl (fun _ hw => ok_load rfl one45 (Kp.cell hw (hcell) (fun f => f))) hS rfl ?_
  refine WO.quiet rfl (fun _ _ => ok_move rfl) hS rfl ?_
  refine WO.quiet rfl (fun _ _ => ok_sliceS r rs.length rfl Try.underlying45 sz49 rfl rfl (by omega) (by omega)) hS rfl ?_
  refine WO.rew 9 (.slice (some ⟨gb, 0 + r * 1, none⟩) (rs.length - r) (hcap - r)) rfl (by rw [if_neg (by omega)]) ?_
  refine WO.quiet rfl (fun _ _ => ok_move rfl) hS rfl ?_
  refine WO.quiet rfl (fun _ _ => ok_nilCheck rfl) hS rfl ?_
  refine WO.quiet rfl (fun _ _ => ok_field rfl fld80_0) hS rfl ?_
  refine WO.quiet rfl (fun _ hw => ok_load rfl one45 (Kp.cell hw (hcell) (fun f => f))) hS rfl ?_
  refine WO.quiet rfl (fun _ _ => ok_move rfl) hS rfl ?_
  refine WO.quiet rfl (fun _ _ => ok_add ((r + 1 : Nat) : Int) rfl rfl (by omega) (by omega) (by omega)) hS rfl ?_
  refine WO.quiet rfl (fun _ _ => ok_sliceS (r + 1) rs.length rfl Try.underlying45 sz49 rfl rfl (by omega) (by omega)) hS rfl ?_
  refine WO.rew 16 (.slice (some ⟨gb, (if hcap = r + 1 then 0 else 0 + (r + 1) * 1), none⟩) (rs.length - (r + 1)) (hcap - (r + 1))) rfl (by split <;> rfl) ?_
  have hrd : Rd w.drew gb (if hcap = r + 1 then 0 else 0 + (r + 1) * 1) ((rs.map CRun.hdr).drop (r + 1)) := by
    split
    · rw [List.drop_of_length_le (by simp; omega)]; intro j v hv; simp at hv
    · have h0 := hOg.drew.rd0.append_left
      rw [← List.take_append_drop (r + 1) (rs.map CRun.hdr)] at h0
      have h1 := h0.append_right
      rw [List.length_take, hAl, Nat.min_eq_left (by omega)] at h1
      rw [Nat.mul_one]
      exact h1
  refine WO.copy (cs := (rs.map CRun.hdr).drop (r + 1)) rfl rfl rfl rfl Try.underlying45 sz49 hOg.drew (by rw [hmin, List.length_drop, hAl, Nat.mul_one]) hrd (by rw [List.length_drop, hAl]; simp only [List.length_append, hAl]; omega) (fun u hu => hdrs_ones rs u (List.mem_of_mem_drop hu)) ?_
  intro w17 ho17 hk17 hs17
  refine ⟨inL rfl, ?_⟩
  have hO17 := hk17.own hO.drew e3
  have hcell17 : w17.cell? ⟨sb, so, none⟩ = some (.slice (some ⟨gb, 0, none⟩) rs.length hcap) := by rw [(hO17).cell]; exact hc
  refine WO.nil ?_
  refine WX.thenC ?_
  refine WC.seq ?_
  refine WC.drawE [11] 8 [(0, true), (1, true), (2, true), (3, true), (4, true), (5, true), (6, true), (7, true), (8, true), (9, true), (10, true), (11, false)] mixed (by kernel_rfl) (fun hS => ?_)
  refine WO.quiet rfl (fun _ _ => ok_move rfl) hS rfl ?_
  refine WO.quiet rfl (fun _ _ => ok_nilCheck rfl) hS rfl ?_
  refine WO.quiet rfl (fun _ _ => ok_field rfl fld80_0) hS rfl ?_
  refine WO.quiet rfl (fun _ hw => ok_load rfl one45 (Kp.cell hw (hcell17) (fun f => f))) hS rfl ?_
  refine WO.quiet rfl (fun _ _ => ok_move rfl) hS rfl ?_
  refine WO.quiet rfl (fun _ _ => ok_nilCheck rfl) hS rfl ?_
  refine WO.quiet rfl (fun _ _ => ok_field rfl fld80_0) hS rfl ?_
  refine WO.quiet rfl (fun _ hw => ok_load rfl one45 (Kp.cell hw (hcell17) (fun f => f))) hS rfl ?_
  refine WO.quiet rfl (fun _ _ => ok_lenSlice rfl Try.underlying45) hS rfl ?_
  refine WO.quiet rfl (fun _ _ => ok_sub ((rs.length - 1 : Nat) : Int) rfl rfl (by omega) (by omega) (by omega)) hS rfl ?_
  refine WO.quiet rfl (fun _ _ => ok_indexS (rs.length - 1) rfl rfl rfl (by omega) Try.underlying45 sz49) hS rfl ?_
  refine WO.store rfl rfl rfl sz49 (ho17.drew) (by simp [Value.cells]) (by simp only [Value.cells]; rw [splice_length _ _ _ (by rw [List.length_drop, hAl]; simp only [List.length_append, hAl]; omega)]; simp only [List.length_append, hAl, List.toList_toArray, List.length_cons, List.length_nil]; omega) (by simp [Value.cells, Value.oneCell']) ?_
  intro wr1 hor1 hkr1 hsr1
  refine ⟨(inL rfl), ?_⟩
  have hrow : Own wr1 gb 49 ((rs.map CRun.hdr).eraseIdx r ++ .slice none 0 0 :: spg) := by
    have := hor1
    simp only [Value.cells] at this
    rw [← drop_cells (rs.map CRun.hdr) spg r (by rw [hAl]; exact hr), hAl]
    exact this
  have hO1 := hkr1.own hO17.drew e3
  have hcell1 : wr1.cell? ⟨sb, so, none⟩ = some (.slice (some ⟨gb, 0, none⟩) rs.length hcap) := by rw [(hO1).cell]; exact hc
  refine WO.nil ?_
  refine WX.thenC ?_
  refine WC.drawE [14] 10 [(0, true), (1, true), (2, true), (3, true), (4, true), (5, true), (6, true), (7, true), (8, true), (9, true), (10, true), (11, true), (12, true), (13, true), (14, false)] mixed (by kernel_rfl) (fun hS => ?_)
  refine WO.quiet rfl (fun _ _ => ok_move rfl) hS rfl ?_
  refine WO.quiet rfl (fun _ _ => ok_move rfl) hS rfl ?_
  refine WO.quiet rfl (fun _ _ => ok_nilCheck rfl) hS rfl ?_
  refine WO.quiet rfl (fun _ _ => ok_field rfl fld80_0) hS rfl ?_
  refine WO.quiet rfl (fun _ hw => ok_load rfl one45 (Kp.cell hw (hcell1) (fun f => f))) hS rfl ?_
  refine WO.quiet rfl (fun _ _ => ok_move rfl) hS rfl ?_
  refine WO.quiet rfl (fun _ _ => ok_nilCheck rfl) hS rfl ?_
  refine WO.quiet rfl (fun _ _ => ok_field rfl fld80_0) hS rfl ?_
  refine WO.quiet rfl (fun _ hw => ok_load rfl one45 (Kp.cell hw (hcell1) (fun f => f))) hS rfl ?_
  refine WO.quiet rfl (fun _ _ => ok_lenSlice rfl Try.underlying45) hS rfl ?_
  refine WO.quiet rfl (fun _ _ => ok_sub ((rs.length - 1 : Nat) : Int) rfl rfl (by omega) (by omega) (by omega)) hS rfl ?_
  refine WO.quiet rfl (fun _ _ => ok_sliceS 0 (rs.length - 1) rfl Try.underlying45 sz49 rfl rfl (by omega) (by omega)) hS rfl ?_
  refine WO.rew 40 (.slice (some ⟨gb, 0, none⟩) (rs.length - 1) hcap) rfl (by split <;> rfl) ?_
  refine WO.quiet rfl (fun _ _ => ok_nilCheck rfl) hS rfl ?_
  refine WO.quiet rfl (fun _ _ => ok_field rfl fld80_0) hS rfl ?_
  refine WO.store rfl rfl rfl sz45 (hO1.drew) (by simp [Value.cells]) (by simp [Value.cells]; omega) (by simp [Value.cells, Value.oneCell']) ?_
  intro wr2 hor2 hkr2 hsr2
  refine ⟨(inL rfl), ?_⟩
  have hor2' : Own wr2 sb e0 (c.set so (.slice (some ⟨gb, 0, none⟩) (rs.length - 1) hcap)) := by
    have := hor2
    simp only [Value.cells] at this
    rw [← splice_one c so _ hso]
    exact this
  have hK : Kp (fun k => k = sb ∨ k = gb) w wr2 := ((((Kp.drew _ _).trans (hk17.mono (fun k _ q => .inr q))).trans (Kp.drew _ _)).trans (hkr1.mono (fun k _ q => .inr q))).trans ((Kp.drew _ _).trans (hkr2.mono (fun k _ q => .inl q)))
  refine WO.nil ?_
  exact WX.end0 rfl ⟨_, rfl, rfl, .slice (some ⟨gb, 0, none⟩) (rs.length - 1) hcap, hor2', asm_erase hR hr hK hsb rfl (hkr2.own hrow.drew (Ne.symm e3)) (by simp; omega), hK.mono (fun k _ q => q.elim .inl (fun q => .inr (mem_fp.2 (.inl (by rw [q])))))⟩
set_option maxHeartbeats 1000000 in
theorem mergeW (rs : List CRun) (hd : Value) (g : Option Nat) (sb so : Nat) (e0 : TypeId) (c : List Value) (r r1 : Nat) (w : World)
    (hO : Own w sb e0 c) (hc : c[so]? = some hd) (hR : RunsAt w hd rs g) (hsb : sb ∉ fp g rs) (hr : r1 < rs.length) (hr1 : r1 = r + 1) (hne : rs[r1].sl ≠ []) (hl : ∀ x ∈ rs, x.sl.length ≤ 128) (hn : rs.length ≤ 1048576) :
    CallsV Try.prog 72 #[.pointer (some ⟨sb, so, none⟩), .int .i64 (r : Nat)] w fun v w' => v = .tuple #[] ∧ ∃ hd' rs' g',
      Own w' sb e0 (c.set so hd') ∧ RunsAt w' hd' rs' g' ∧ slots rs' = mrgL (slots rs) r ∧ Kp (fun k => k = sb ∨ k ∈ fp g rs) w w' ∧ (∀ b ∈ fp g' rs', b ∈ fp g rs ∨ w.heap.size ≤ b) := by
  obtain ⟨gb, hcap, spg, rfl, rfl, hOg, hcl⟩ := hR.hd (by intro e; rw [e] at hr; simp at hr)
  have hso := lt_of_get hc
  have hcell : w.cell? ⟨sb, so, none⟩ = some (.slice (some ⟨gb, 0, none⟩) rs.length hcap) := by rw [hO.cell]; exact hc
  have e3 : sb ≠ gb := fun h => hsb (mem_fp.2 (.inl (by rw [h])))
  have hAl : (rs.map CRun.hdr).length = rs.length := by simp
  have hlt : r < rs.length := by omega
  have hrun := hR.run rs[r] (List.getElem_mem hlt)
  obtain ⟨R1, hR1e⟩ : ∃ x, x = rs[r1] := ⟨_, rfl⟩
  have hrun1 := hR.run R1 (by rw [hR1e]; exact List.getElem_mem hr)
  have hcR1 : w.cell? ⟨gb, 0 + r1 * 1, none⟩ = some R1.hdr := by rw [hR1e]; exact rd_hdr hOg r1 hr
  have hl0 := hl _ (List.getElem_mem hlt)
  have hl1 : R1.sl.length ≤ 128 := hl R1 (by rw [hR1e]; exact List.getElem_mem hr)
  have hnd := nodup_fp hR.nodup hlt
  have e1 : gb ≠ rs[r].b := hnd.1 gb rfl
  have e2 : sb ≠ rs[r].b := fun h => hsb (mem_fp.2 (.inr ⟨_, List.getElem_mem hlt, h.symm⟩))
  have hm0 : 0 < R1.sl.length := by rw [hR1e]; exact List.length_pos_iff.2 hne
  have hgbl := hOg.lt
  have hsbl := hO.lt
  have hEd : Ext w w.drew := Kp.drew _ _
  refine calls_intro (args := [_, _]) Try.func72 rfl Try.ntmps72 rfl ?_
  refine WC.seq ?_
  refine WC.draw (Kp (· = rs[r].b) w) [22] 9 [(0, true), (1, true), (2, true), (3, true), (4, true), (5, true), (6, true), (7, true), (8, true), (9, true), (10, true), (11, true), (12, true), (13, true), (14, true), (15, true), (16, true), (17, true), (18, true), (19, true), (20, false), (21, true), (22, false)] mixed (by kernel_rfl) ?_
  have hS : Kp (· = rs[r].b) w w.drew := Kp.drew _ _
  refine WO.quiet rfl (fun _ _ => ok_move rfl) hS rfl ?_
  refine WO.quiet rfl (fun _ _ => ok_nilCheck rfl) hS rfl ?_
  refine WO.quiet rfl (fun _ _ => ok_field rfl fld80_0) hS rfl ?_
  refine WO.quiet rfl (fun _ hw => ok_load rfl one45 (Kp.cell hw (hcell) e2)) hS rfl ?_
  refine WO.quiet rfl (fun _ _ => ok_move rfl) hS rfl ?_
  refine WO.quiet rfl (fun _ _ => ok_move rfl) hS rfl ?_
  refine WO.quiet rfl (fun _ _ => ok_nilCheck rfl) hS rfl ?_
  refine WO.quiet rfl (fun _ _ => ok_field rfl fld80_0) hS rfl ?_
  refine WO.quiet rfl (fun _ hw => ok_load rfl one45 (Kp.cell hw (hcell) e2)) hS rfl ?_
  refine WO.quiet rfl (fun _ _ => ok_move rfl) hS rfl ?_
  refine WO.quiet rfl (fun _ _ => ok_indexS _ rfl rfl rfl (by omega) Try.underlying45 sz49) hS rfl ?_
  refine WO.quiet rfl (fun _ hw => ok_load rfl one49 (Kp.cell hw (rd_hdr hOg r hlt) e1)) hS rfl ?_
  refine WO.quiet rfl (fun _ _ => ok_move rfl) hS rfl ?_
  refine WO.quiet rfl (fun _ _ => ok_nilCheck rfl) hS rfl ?_
  refine WO.quiet rfl (fun _ _ => ok_field rfl fld80_0) hS rfl ?_
  refine WO.quiet rfl (fun _ hw => ok_load rfl one45 (Kp.cell hw (hcell) e2)) hS rfl ?_
  refine WO.quiet rfl (fun _ _ => ok_move rfl) hS rfl ?_
  refine WO.quiet rfl (fun _ _ => ok_add ((r1 : Nat) : Int) rfl rfl (by omega) (by omega) (by omega)) hS rfl ?_
  refine WO.quiet rfl (fun _ _ => ok_indexS r1 rfl rfl rfl (by omega) Try.underlying45 sz49) hS rfl ?_
  refine WO.quiet rfl (fun _ hw => ok_load rfl one49 (Kp.cell hw (hcR1) e1)) hS rfl ?_
  refine WO.append (c := R1.cap) (b := R1.b) (off := 0) (m := R1.sl.length) (news := encS R1.sl) rfl rfl rfl rfl elt49 (hrun.2.kp hEd (fun _ _ f => f)) (encS_length hrun1.1) (hrun1.rd.kp hEd (fun f => f)) (encS_one hrun1.1) hm0 (by omega) (by omega) ?_
  intro v20 w20 g20 hS20 hK20 hg20
  have hSn : Kp (· = rs[r].b) w w20 := hS.trans (hK20.mono (fun k _ q => by cases q; rfl))
  refine ⟨fun _ => hSn, ?_⟩
  have hS := hSn
  obtain ⟨b', cap', sp', rfl, hB, hBl, hBc, hcap1, rfl⟩ := hS20.some (by omega)
  have hb' : b' = rs[r].b ∨ w.heap.size ≤ b' := by
    rcases hg20 with h | ⟨h, _⟩
    · cases h; exact .inl rfl
    · cases h; exact .inr (Nat.le_refl _)
  have d4 : b' ≠ gb := by rcases hb' with h | h <;> omega
  have d3 : b' ≠ sb := by rcases hb' with h | h <;> omega
  refine WO.quiet rfl (fun _ _ => ok_indexS _ rfl rfl rfl (by omega) Try.underlying45 sz49) hS rfl ?_
  refine WO.store rfl rfl rfl sz49 (hS.own hOg e1) (by simp [Value.cells]) (by simp [Value.cells]; omega) (by simp [Value.cells, Value.oneCell']) ?_
  intro wr0 hor0 hkr0 hsr0
  refine ⟨(inL rfl), ?_⟩
  have hrow : Own wr0 gb 49 ((rs.map CRun.hdr).set r (.slice (some ⟨b', 0, none⟩) (rs[r].sl.length + R1.sl.length) cap') ++ spg) := by
    have := hor0
    simp only [Value.cells] at this
    rw [show (0 + r * 1) = r by omega] at this
    rw [← splice_set _ _ _ _ (by simpa using hlt)]
    exact this
  have hsok : OkS (rs[r].sl ++ R1.sl) := by
    intro s hs
    rcases List.mem_append.1 hs with h | h
    · exact hrun.1 s h
    · exact hrun1.1 s h
  have hK0 : Kp (fun k => k = sb ∨ k = gb ∨ k = rs[r].b) w wr0 := (hS.mono (fun k _ q => .inr (.inr q))).trans (hkr0.mono (fun k _ q => .inr (.inl q)))
  have hel := encS_length hrun.1
  have hel1 := encS_length hrun1.1
  have hCok : RunOk wr0 ⟨b', cap', rs[r].sl ++ R1.sl⟩ := RunOk.mk hsok (by rw [encS_append]; exact hkr0.own hB d4) (by rw [encS_append]; exact hBc) (by rw [List.length_append]; exact hcap1)
  have hR0 : RunsAt wr0 (.slice (some ⟨gb, 0, none⟩) rs.length hcap) (rs.set r ⟨b', cap', rs[r].sl ++ R1.sl⟩) (some gb) := asm_set hR hlt _ hK0 hsb rfl (by simpa [CRun.hdr] using hrow) hcl hCok hb'
  have hO0 := hkr0.own (hS.own hO e2) e3
  have hsb0 : sb ∉ fp (some gb) (rs.set r ⟨b', cap', rs[r].sl ++ R1.sl⟩) := by
    intro h
    rcases mem_fp.1 h with h | ⟨x, hx, hxb⟩
    · cases h; exact e3 rfl
    · rcases List.mem_or_eq_of_mem_set hx with h | h
      · exact hsb (mem_fp.2 (.inr ⟨x, h, hxb⟩))
      · subst h; exact d3 hxb
  refine WO.nil ?_
  refine WX.thenC ?_
  refine WC.region ?_
  refine WL.step (ok_move rfl) rfl ?_
  refine WL.step (ok_move rfl) rfl ?_
  refine WL.step (ok_add ((r1 : Nat) : Int) rfl rfl (by omega) (by omega) (by omega)) rfl ?_
  refine WL.call (ok_callF rfl isfn71) rfl (dropRunW (rs.set r ⟨b', cap', rs[r].sl ++ R1.sl⟩) _ (some gb) sb so e0 c r1 _ hO0 hc hR0 hsb0 (by simpa using hr) (by simpa using hn)) ?_
  rintro v w29 ⟨rfl, hd', q1, q2, q3⟩
  refine WL.nil ?_
  have hfp : ∀ b ∈ fp (some gb) (rs.set r ⟨b', cap', rs[r].sl ++ R1.sl⟩), b ∈ fp (some gb) rs ∨ w.heap.size ≤ b := by
    intro b hb
    rcases mem_fp.1 hb with h | ⟨x, hx, rfl⟩
    · exact .inl (mem_fp.2 (.inl h))
    · rcases List.mem_or_eq_of_mem_set hx with h | h
      · exact .inl (mem_fp.2 (.inr ⟨x, h, rfl⟩))
      · subst h
        rcases hb' with h | h
        · exact .inl (mem_fp.2 (.inr ⟨_, List.getElem_mem hlt, h.symm⟩))
        · exact .inr h
  refine WX.end0 rfl ⟨_, rfl, rfl, hd', _, some gb, q1, q2, ?_, ?_, fun b hb => hfp b (fp_erase hb)⟩
  · rw [slots_erase]
    subst hr1
    have h1 : (slots rs).getD r [] = rs[r].sl := by simp [List.getD, slots, hlt]
    have h2 : (slots rs).getD (r + 1) [] = R1.sl := by rw [hR1e]; simp [List.getD, slots, hr]
    unfold mrgL
    rw [h1, h2]
    simp [slots, List.map_set]
  · refine (hK0.mono (fun k _ q => q.elim .inl (fun q => .inr (q.elim (fun q => mem_fp.2 (.inl (by rw [q]))) (fun q => mem_fp.2 (.inr ⟨_, List.getElem_mem hlt, q.symm⟩)))))).over q3 ?_
    rintro k hk (h | h)
    · exact .inl h
    · rcases hfp k h with h | h
      · exact .inr h
      · omega
set_option maxHeartbeats 1000000 in
theorem shrunkW (rs : List CRun) (hd : Value) (g : Option Nat) (sb so : Nat) (e0 : TypeId) (c : List Value) (r : Nat) (w : World)
    (hO : Own w sb e0 c) (hc : c[so]? = some hd) (hR : RunsAt w hd rs g) (hsb : sb ∉ fp g rs) (hr : r < rs.length) (hne : ∀ j (h : j < rs.length), j ≠ r → rs[j].sl ≠ []) (hl : ∀ x ∈ rs, x.sl.length ≤ 128) (hn : rs.length ≤ 1048576) :
    CallsV Try.prog 68 #[.pointer (some ⟨sb, so, none⟩), .int .i64 (r : Nat)] w fun v w' => v = .tuple #[] ∧ ∃ hd' rs' g',
      Own w' sb e0 (c.set so hd') ∧ RunsAt w' hd' rs' g' ∧ slots rs' = shrL (slots rs) r ∧ Kp (fun k => k = sb ∨ k ∈ fp g rs) w w' ∧ (∀ b ∈ fp g' rs', b ∈ fp g rs ∨ w.heap.size ≤ b) := by
  obtain ⟨gb, hcap, spg, rfl, rfl, hOg, hcl⟩ := hR.hd (by intro e; rw [e] at hr; simp at hr)
  have hso := lt_of_get hc
  have hcell : w.cell? ⟨sb, so, none⟩ = some (.slice (some ⟨gb, 0, none⟩) rs.length hcap) := by rw [hO.cell]; exact hc
  have e3 : sb ≠ gb := fun h => hsb (mem_fp.2 (.inl (by rw [h])))
  have hAl : (rs.map CRun.hdr).length = rs.length := by simp
  have hg : ∀ j (h : j < rs.length), ((slots rs).getD j []).length = rs[j].sl.length := by intro j h; simp [List.getD, slots, h]
  have hsl : (slots rs).length = rs.length := slots_length rs
  have hlr := hl _ (List.getElem_mem hr)
  obtain ⟨m0, hm0e⟩ : ∃ x, x = rs[r].sl.length := ⟨_, rfl⟩
  have hEd : Ext w w.drew := Kp.drew _ _
  have hEd2 : Ext w w.drew.drew := hEd.trans (Kp.drew _ _)
  refine calls_intro (args := [_, _]) Try.func68 rfl Try.ntmps68 rfl ?_
  refine WC.seq ?_
  refine WC.seq ?_
  refine WC.region ?_
  refine WL.step (ok_move rfl) rfl ?_
  refine WL.step (ok_nilCheck rfl) rfl ?_
  refine WL.step (ok_field rfl fld80_0) rfl ?_
  refine WL.step (ok_load rfl one45 (hcell)) rfl ?_
  refine WL.step (ok_move rfl) rfl ?_
  refine WL.step (ok_indexS _ rfl rfl rfl (by omega) Try.underlying45 sz49) rfl ?_
  refine WL.step (ok_load rfl one49 (rd_hdr hOg r hr)) rfl ?_
  refine WL.step (ok_lenSlice rfl Try.underlying49) rfl ?_
  refine WL.step (ok_eql rfl rfl) rfl ?_
  refine WL.nil ?_
  refine WX.thenC ?_
  refine WC.cond rfl (fun hc12 => ?_) (fun hc12 => ?_)
  ·
    have h0 : rs[r].sl.length = 0 := by have := of_decide_eq_true hc12; omega
    refine WC.seq ?_
    refine WC.region ?_
    refine WL.step (ok_move rfl) rfl ?_
    refine WL.step (ok_move rfl) rfl ?_
    refine WL.call (ok_callF rfl isfn71) rfl (dropRunW rs _ (some gb) sb so e0 c r _ hO hc hR hsb hr hn) ?_
    rintro v w15 ⟨rfl, hd', q1, q2, q3⟩
    refine WL.nil ?_
    refine WX.thenC ?_
    refine WC.ret ?_
    refine WX.thenR ?_
    exact WX.ret0 rfl ⟨_, rfl, rfl, hd', _, some gb, q1, q2, by rw [slots_erase]; unfold shrL; rw [if_pos (by rw [hg _ hr]; exact h0)], q3, fun b hb => .inl (fp_erase hb)⟩
  ·
    have h0 : ¬ rs[r].sl.length = 0 := by have := of_decide_eq_false hc12; omega
    refine WC.skip ?_
    refine WX.thenC ?_
    refine WC.seq ?_
    refine WC.drawE [] 13 [(0, true), (1, true), (2, true), (3, true), (4, true), (5, true), (6, true), (7, true), (8, true), (9, true), (10, true), (11, true), (12, true), (13, true), (14, true), (15, true), (16, true), (17, true), (18, true), (19, true), (20, true), (21, true), (22, true)] mixed (by kernel_rfl) (fun hS => ?_)
    refine WO.quiet rfl (fun _ _ => ok_move rfl) hS rfl ?_
    refine WO.quiet rfl (fun _ _ => ok_gtr rfl rfl) hS rfl ?_
    refine WO.quiet rfl (fun _ _ => ok_move rfl) hS rfl ?_
    refine WO.splitB 18 rfl (fun hb18 => ?_) (fun hb18 => ?_)
    ·
      have hr0 : 0 < r := by have := of_decide_eq_true hb18; omega
      have hrm : r - 1 < rs.length := by omega
      have hlm := hl _ (List.getElem_mem hrm)
      obtain ⟨m1, hm1e⟩ : ∃ x, x = rs[r - 1].sl.length := ⟨_, rfl⟩
      refine WO.quietOn rfl rfl rfl (fun _ _ => ok_move rfl) hS rfl ?_
      refine WO.quietOn rfl rfl rfl (fun _ _ => ok_nilCheck rfl) hS rfl ?_
      refine WO.quietOn rfl rfl rfl (fun _ _ => ok_field rfl fld80_0) hS rfl ?_
      refine WO.quietOn rfl rfl rfl (fun _ hw => ok_load rfl one45 (Kp.cell hw (hcell) (fun f => f))) hS rfl ?_
      refine WO.quietOn rfl rfl rfl (fun _ _ => ok_move rfl) hS rfl ?_
      refine WO.quietOn rfl rfl rfl (fun _ _ => ok_sub ((r - 1 : Nat) : Int) rfl rfl (by omega) (by omega) (by omega)) hS rfl ?_
      refine WO.quietOn rfl rfl rfl (fun _ _ => ok_indexS (r - 1) rfl rfl rfl (by omega) Try.underlying45 sz49) hS rfl ?_
      refine WO.quietOn rfl rfl rfl (fun _ hw => ok_load rfl one49 (Kp.cell hw (rd_hdr hOg (r - 1) hrm) (fun f => f))) hS rfl ?_
      refine WO.quietOn rfl rfl rfl (fun _ _ => ok_lenSlice rfl Try.underlying49) hS rfl ?_
      refine WO.quietOn rfl rfl rfl (fun _ _ => ok_move rfl) hS rfl ?_
      refine WO.quietOn rfl rfl rfl (fun _ _ => ok_nilCheck rfl) hS rfl ?_
      refine WO.quietOn rfl rfl rfl (fun _ _ => ok_field rfl fld80_0) hS rfl ?_
      refine WO.quietOn rfl rfl rfl (fun _ hw => ok_load rfl one45 (Kp.cell hw (hcell) (fun f => f))) hS rfl ?_
      refine WO.quietOn rfl rfl rfl (fun _ _ => ok_move rfl) hS rfl ?_
      refine WO.quietOn rfl rfl rfl (fun _ _ => ok_indexS _ rfl rfl rfl (by omega) Try.underlying45 sz49) hS rfl ?_
      refine WO.quietOn rfl rfl rfl (fun _ hw => ok_load rfl one49 (Kp.cell hw (rd_hdr hOg r hr) (fun f => f))) hS rfl ?_
      refine WO.quietOn rfl rfl rfl (fun _ _ => ok_lenSlice rfl Try.underlying49) hS rfl ?_
      refine WO.quietOn rfl rfl rfl (fun _ _ => ok_add ((m1 + m0 : Nat) : Int) rfl rfl (by omega) (by omega) (by omega)) hS rfl ?_
      refine WO.quietOn rfl rfl rfl (fun _ _ => ok_leq rfl rfl) hS rfl ?_
      refine WO.quiet rfl (fun _ _ => ok_pickT rfl rfl) hS rfl ?_
      refine WO.nil ?_
      refine WX.thenC ?_
      refine WC.cond rfl (fun hc38 => ?_) (fun hc38 => ?_)
      ·
        have hm1 : 0 < r ∧ ((slots rs).getD (r - 1) []).length + ((slots rs).getD r []).length ≤ 64 := ⟨hr0, by rw [hg _ hr, hg _ hrm]; have := of_decide_eq_true hc38; omega⟩
        refine WC.region ?_
        refine WL.step (ok_move rfl) rfl ?_
        refine WL.step (ok_move rfl) rfl ?_
        refine WL.step (ok_sub ((r - 1 : Nat) : Int) rfl rfl (by omega) (by omega) (by omega)) rfl ?_
        refine WL.call (ok_callF rfl isfn72) rfl (mergeW rs _ (some gb) sb so e0 c (r - 1) r _ (hO.ext hEd) hc (hR.ext hEd) hsb hr (by omega) (fun e => by rw [e] at h0; simp at h0) hl hn) ?_
        rintro v w42 ⟨rfl, hd', rs', g', q1, q2, q3, q4, q5⟩
        refine WL.nil ?_
        exact WX.end0 rfl ⟨_, rfl, rfl, hd', rs', g', q1, q2, by rw [q3]; unfold shrL; rw [if_neg (by rw [hg _ hr]; exact h0), if_pos hm1], (Kp.of_ext hEd).trans q4, q5⟩
      ·
        have hm1 : ¬ (0 < r ∧ ((slots rs).getD (r - 1) []).length + ((slots rs).getD r []).length ≤ 64) := by rw [hg _ hr, hg _ hrm]; have := of_decide_eq_false hc38; omega
        refine WC.seq ?_
        have hcellD : w.drew.cell? ⟨sb, so, none⟩ = some (.slice (some ⟨gb, 0, none⟩) rs.length hcap) := hcell
        refine WC.drawE [] 17 [(0, true), (1, true), (2, true), (3, true), (4, true), (5, true), (6, true), (7, true), (8, true), (9, true), (10, true), (11, true), (12, true), (13, true), (14, true), (15, true), (16, true), (17, true), (18, true), (19, true), (20, true), (21, true), (22, true), (23, true), (24, true), (25, true), (26, true), (27, true), (28, true)] mixed (by kernel_rfl) (fun hS => ?_)
        refine WO.quiet rfl (fun _ _ => ok_move rfl) hS rfl ?_
        refine WO.quiet rfl (fun _ _ => ok_add ((r + 1 : Nat) : Int) rfl rfl (by omega) (by omega) (by omega)) hS rfl ?_
        refine WO.quiet rfl (fun _ _ => ok_move rfl) hS rfl ?_
        refine WO.quiet rfl (fun _ _ => ok_nilCheck rfl) hS rfl ?_
        refine WO.quiet rfl (fun _ _ => ok_field rfl fld80_0) hS rfl ?_
        refine WO.quiet rfl (fun _ hw => ok_load rfl one45 (Kp.cell hw ((hcellD)) (fun f => f))) hS rfl ?_
        refine WO.quiet rfl (fun _ _ => ok_lenSlice rfl Try.underlying45) hS rfl ?_
        refine WO.quiet rfl (fun _ _ => ok_lss rfl rfl) hS rfl ?_
        refine WO.quiet rfl (fun _ _ => ok_move rfl) hS rfl ?_
        refine WO.splitB 51 rfl (fun hb51 => ?_) (fun hb51 => ?_)
        ·
          have hrp : r + 1 < rs.length := by have := of_decide_eq_true hb51; omega
          have hlp := hl _ (List.getElem_mem hrp)
          obtain ⟨m2, hm2e⟩ : ∃ x, x = rs[r + 1].sl.length := ⟨_, rfl⟩
          refine WO.quietOn rfl rfl rfl (fun _ _ => ok_move rfl) hS rfl ?_
          refine WO.quietOn rfl rfl rfl (fun _ _ => ok_nilCheck rfl) hS rfl ?_
          refine WO.quietOn rfl rfl rfl (fun _ _ => ok_field rfl fld80_0) hS rfl ?_
          refine WO.quietOn rfl rfl rfl (fun _ hw => ok_load rfl one45 (Kp.cell hw (hcellD) (fun f => f))) hS rfl ?_
          refine WO.quietOn rfl rfl rfl (fun _ _ => ok_move rfl) hS rfl ?_
          refine WO.quietOn rfl rfl rfl (fun _ _ => ok_indexS _ rfl rfl rfl (by omega) Try.underlying45 sz49) hS rfl ?_
          refine WO.quietOn rfl rfl rfl (fun _ hw => ok_load rfl one49 (Kp.cell hw (rd_hdr (hOg.ext hEd) r hr) (fun f => f))) hS rfl ?_
          refine WO.quietOn rfl rfl rfl (fun _ _ => ok_lenSlice rfl Try.underlying49) hS rfl ?_
          refine WO.quietOn rfl rfl rfl (fun _ _ => ok_move rfl) hS rfl ?_
          refine WO.quietOn rfl rfl rfl (fun _ _ => ok_nilCheck rfl) hS rfl ?_
          refine WO.quietOn rfl rfl rfl (fun _ _ => ok_field rfl fld80_0) hS rfl ?_
          refine WO.quietOn rfl rfl rfl (fun _ hw => ok_load rfl one45 (Kp.cell hw (hcellD) (fun f => f))) hS rfl ?_
          refine WO.quietOn rfl rfl rfl (fun _ _ => ok_move rfl) hS rfl ?_
          refine WO.quietOn rfl rfl rfl (fun _ _ => ok_add ((r + 1 : Nat) : Int) rfl rfl (by omega) (by omega) (by omega)) hS rfl ?_
          refine WO.quietOn rfl rfl rfl (fun _ _ => ok_indexS (r + 1) rfl rfl rfl (by omega) Try.underlying45 sz49) hS rfl ?_
          refine WO.quietOn rfl rfl rfl (fun _ hw => ok_load rfl one49 (Kp.cell hw (rd_hdr (hOg.ext hEd) (r + 1) hrp) (fun f => f))) hS rfl ?_
          refine WO.quietOn rfl rfl rfl (fun _ _ => ok_lenSlice rfl Try.underlying49) hS rfl ?_
          refine WO.quietOn rfl rfl rfl (fun _ _ => ok_add ((m0 + m2 : Nat) : Int) rfl rfl (by omega) (by omega) (by omega)) hS rfl ?_
          refine WO.quietOn rfl rfl rfl (fun _ _ => ok_leq rfl rfl) hS rfl ?_
          refine WO.quiet rfl (fun _ _ => ok_pickT rfl rfl) hS rfl ?_
          refine WO.nil ?_
          refine WX.thenC ?_
          refine WC.cond rfl (fun hc71 => ?_) (fun hc71 => ?_)
          ·
            have hm2 : r + 1 < (slots rs).length ∧ ((slots rs).getD r []).length + ((slots rs).getD (r + 1) []).length ≤ 64 := ⟨by omega, by rw [hg _ hr, hg _ hrp]; have := of_decide_eq_true hc71; omega⟩
            refine WC.region ?_
            refine WL.step (ok_move rfl) rfl ?_
            refine WL.step (ok_move rfl) rfl ?_
            refine WL.call (ok_callF rfl isfn72) rfl (mergeW rs _ (some gb) sb so e0 c r (r + 1) _ (hO.ext hEd2) hc (hR.ext hEd2) hsb hrp rfl (hne (r + 1) hrp (by omega)) hl hn) ?_
            rintro v w74 ⟨rfl, hd', rs', g', q1, q2, q3, q4, q5⟩
            refine WL.nil ?_
            exact WX.end0 rfl ⟨_, rfl, rfl, hd', rs', g', q1, q2, by rw [q3]; unfold shrL; rw [if_neg (by rw [hg _ hr]; exact h0), if_neg hm1, if_pos hm2], (Kp.of_ext hEd2).trans q4, q5⟩
          ·
            have hm2 : ¬ (r + 1 < (slots rs).length ∧ ((slots rs).getD r []).length + ((slots rs).getD (r + 1) []).length ≤ 64) := by rw [hg _ hr, hg _ hrp]; have := of_decide_eq_false hc71; omega
            refine WC.skip ?_
            exact WX.end0 rfl ⟨_, rfl, rfl, _, rs, some gb, by rw [set_same c so _ hc]; exact hO.ext hEd2, hR.ext hEd2, by unfold shrL; rw [if_neg (by rw [hg _ hr]; exact h0), if_neg hm1, if_neg hm2], Kp.of_ext hEd2, fun b hb => .inl hb⟩
        ·
          have hrp : ¬ r + 1 < rs.length := by have := of_decide_eq_false hb51; omega
          refine WO.off rfl rfl rfl rfl hS rfl ?_
          refine WO.off rfl rfl rfl rfl hS rfl ?_
          refine WO.off rfl rfl rfl rfl hS rfl ?_
          refine WO.off rfl rfl rfl rfl hS rfl ?_
          refine WO.off rfl rfl rfl rfl hS rfl ?_
          refine WO.off rfl rfl rfl rfl hS rfl ?_
          refine WO.off rfl rfl rfl rfl hS rfl ?_
          refine WO.off rfl rfl rfl rfl hS rfl ?_
          refine WO.off rfl rfl rfl rfl hS rfl ?_
          refine WO.off rfl rfl rfl rfl hS rfl ?_
          refine WO.off rfl rfl rfl rfl hS rfl ?_
          refine WO.off rfl rfl rfl rfl hS rfl ?_
          refine WO.off rfl rfl rfl rfl hS rfl ?_
          refine WO.off rfl rfl rfl rfl hS rfl ?_
          refine WO.off rfl rfl rfl rfl hS rfl ?_
          refine WO.off rfl rfl rfl rfl hS rfl ?_
          refine WO.off rfl rfl rfl rfl hS rfl ?_
          refine WO.off rfl rfl rfl rfl hS rfl ?_
          refine WO.off rfl rfl rfl rfl hS rfl ?_
          refine WO.quiet rfl (fun _ _ => ok_pickF rfl rfl) hS rfl ?_
          refine WO.nil ?_
          refine WX.thenC ?_
          refine WC.condFb rfl rfl ?_
          refine WC.skip ?_
          exact WX.end0 rfl ⟨_, rfl, rfl, _, rs, some gb, by rw [set_same c so _ hc]; exact hO.ext hEd2, hR.ext hEd2, by unfold shrL; rw [if_neg (by rw [hg _ hr]; exact h0), if_neg hm1, if_neg (by omega)], Kp.of_ext hEd2, fun b hb => .inl hb⟩
    ·
      have hr0 : ¬ 0 < r := by have := of_decide_eq_false hb18; omega
      refine WO.off rfl rfl rfl rfl hS rfl ?_
      refine WO.off rfl rfl rfl rfl hS rfl ?_
      refine WO.off rfl rfl rfl rfl hS rfl ?_
      refine WO.off rfl rfl rfl rfl hS rfl ?_
      refine WO.off rfl rfl rfl rfl hS rfl ?_
      refine WO.off rfl rfl rfl rfl hS rfl ?_
      refine WO.off rfl rfl rfl rfl hS rfl ?_
      refine WO.off rfl rfl rfl rfl hS rfl ?_
      refine WO.off rfl rfl rfl rfl hS rfl ?_
      refine WO.off rfl rfl rfl rfl hS rfl ?_
      refine WO.off rfl rfl rfl rfl hS rfl ?_
      refine WO.off rfl rfl rfl rfl hS rfl ?_
      refine WO.off rfl rfl rfl rfl hS rfl ?_
      refine WO.off rfl rfl rfl rfl hS rfl ?_
      refine WO.off rfl rfl rfl rfl hS rfl ?_
      refine WO.off rfl rfl rfl rfl hS rfl ?_
      refine WO.off rfl rfl rfl rfl hS rfl ?_
      refine WO.off rfl rfl rfl rfl hS rfl ?_
      refine WO.off rfl rfl rfl rfl hS rfl ?_
      refine WO.quiet rfl (fun _ _ => ok_pickF rfl rfl) hS rfl ?_
      refine WO.nil ?_
      refine WX.thenC ?_
      refine WC.condFb rfl rfl ?_
      refine WC.seq ?_
      have hcellD : w.drew.cell? ⟨sb, so, none⟩ = some (.slice (some ⟨gb, 0, none⟩) rs.length hcap) := hcell
      refine WC.drawE [] 17 [(0, true), (1, true), (2, true), (3, true), (4, true), (5, true), (6, true), (7, true), (8, true), (9, true), (10, true), (11, true), (12, true), (13, true), (14, true), (15, true), (16, true), (17, true), (18, true), (19, true), (20, true), (21, true), (22, true), (23, true), (24, true), (25, true), (26, true), (27, true), (28, true)] mixed (by kernel_rfl) (fun hS => ?_)
      refine WO.quiet rfl (fun _ _ => ok_move rfl) hS rfl ?_
      refine WO.quiet rfl (fun _ _ => ok_add ((r + 1 : Nat) : Int) rfl rfl (by omega) (by omega) (by omega)) hS rfl ?_
      refine WO.quiet rfl (fun _ _ => ok_move rfl) hS rfl ?_
      refine WO.quiet rfl (fun _ _ => ok_nilCheck rfl) hS rfl ?_
      refine WO.quiet rfl (fun _ _ => ok_field rfl fld80_0) hS rfl ?_
      refine WO.quiet rfl (fun _ hw => ok_load rfl one45 (Kp.cell hw ((hcellD)) (fun f => f))) hS rfl ?_
      refine WO.quiet rfl (fun _ _ => ok_lenSlice rfl Try.underlying45) hS rfl ?_
      refine WO.quiet rfl (fun _ _ => ok_lss rfl rfl) hS rfl ?_
      refine WO.quiet rfl (fun _ _ => ok_move rfl) hS rfl ?_
      refine WO.splitB 51 rfl (fun hb51 => ?_) (fun hb51 => ?_)
      ·
        have hrp : r + 1 < rs.length := by have := of_decide_eq_true hb51; omega
        have hlp := hl _ (List.getElem_mem hrp)
        obtain ⟨m2, hm2e⟩ : ∃ x, x = rs[r + 1].sl.length := ⟨_, rfl⟩
        refine WO.quietOn rfl rfl rfl (fun _ _ => ok_move rfl) hS rfl ?_
        refine WO.quietOn rfl rfl rfl (fun _ _ => ok_nilCheck rfl) hS rfl ?_
        refine WO.quietOn rfl rfl rfl (fun _ _ => ok_field rfl fld80_0) hS rfl ?_
        refine WO.quietOn rfl rfl rfl (fun _ hw => ok_load rfl one45 (Kp.cell hw (hcellD) (fun f => f))) hS rfl ?_
        refine WO.quietOn rfl rfl rfl (fun _ _ => ok_move rfl) hS rfl ?_
        refine WO.quietOn rfl rfl rfl (fun _ _ => ok_indexS _ rfl rfl rfl (by omega) Try.underlying45 sz49) hS rfl ?_
        refine WO.quietOn rfl rfl rfl (fun _ hw => ok_load rfl one49 (Kp.cell hw (rd_hdr (hOg.ext hEd) r hr) (fun f => f))) hS rfl ?_
        refine WO.quietOn rfl rfl rfl (fun _ _ => ok_lenSlice rfl Try.underlying49) hS rfl ?_
        refine WO.quietOn rfl rfl rfl (fun _ _ => ok_move rfl) hS rfl ?_
        refine WO.quietOn rfl rfl rfl (fun _ _ => ok_nilCheck rfl) hS rfl ?_
        refine WO.quietOn rfl rfl rfl (fun _ _ => ok_field rfl fld80_0) hS rfl ?_
        refine WO.quietOn rfl rfl rfl (fun _ hw => ok_load rfl one45 (Kp.cell hw (hcellD) (fun f => f))) hS rfl ?_
        refine WO.quietOn rfl rfl rfl (fun _ _ => ok_move rfl) hS rfl ?_
        refine WO.quietOn rfl rfl rfl (fun _ _ => ok_add ((r + 1 : Nat) : Int) rfl rfl (by omega) (by omega) (by omega)) hS rfl ?_
        refine WO.quietOn rfl rfl rfl (fun _ _ => ok_indexS (r + 1) rfl rfl rfl (by omega) Try.underlying45 sz49) hS rfl ?_
        refine WO.quietOn rfl rfl rfl (fun _ hw => ok_load rfl one49 (Kp.cell hw (rd_hdr (hOg.ext hEd) (r + 1) hrp) (fun f => f))) hS rfl ?_
        refine WO.quietOn rfl rfl rfl (fun _ _ => ok_lenSlice rfl Try.underlying49) hS rfl ?_
        refine WO.quietOn rfl rfl rfl (fun _ _ => ok_add ((m0 + m2 : Nat) : Int) rfl rfl (by omega) (by omega) (by omega)) hS rfl ?_
        refine WO.quietOn rfl rfl rfl (fun _ _ => ok_leq rfl rfl) hS rfl ?_
        refine WO.quiet rfl (fun _ _ => ok_pickT rfl rfl) hS rfl ?_
        refine WO.nil ?_
        refine WX.thenC ?_
        refine WC.cond rfl (fun hc71 => ?_) (fun hc71 => ?_)
        ·
          have hm2 : r + 1 < (slots rs).length ∧ ((slots rs).getD r []).length + ((slots rs).getD (r + 1) []).length ≤ 64 := ⟨by omega, by rw [hg _ hr, hg _ hrp]; have := of_decide_eq_true hc71; omega⟩
          refine WC.region ?_
          refine WL.step (ok_move rfl) rfl ?_
          refine WL.step (ok_move rfl) rfl ?_
          refine WL.call (ok_callF rfl isfn72) rfl (mergeW rs _ (some gb) sb so e0 c r (r + 1) _ (hO.ext hEd2) hc (hR.ext hEd2) hsb hrp rfl (hne (r + 1) hrp (by omega)) hl hn) ?_
          rintro v w74 ⟨rfl, hd', rs', g', q1, q2, q3, q4, q5⟩
          refine WL.nil ?_
          exact WX.end0 rfl ⟨_, rfl, rfl, hd', rs', g', q1, q2, by rw [q3]; unfold shrL; rw [if_neg (by rw [hg _ hr]; exact h0), if_neg (fun q => hr0 q.1), if_pos hm2], (Kp.of_ext hEd2).trans q4, q5⟩
        ·
          have hm2 : ¬ (r + 1 < (slots rs).length ∧ ((slots rs).getD r []).length + ((slots rs).getD (r + 1) []).length ≤ 64) := by rw [hg _ hr, hg _ hrp]; have := of_decide_eq_false hc71; omega
          refine WC.skip ?_
          exact WX.end0 rfl ⟨_, rfl, rfl, _, rs, some gb, by rw [set_same c so _ hc]; exact hO.ext hEd2, hR.ext hEd2, by unfold shrL; rw [if_neg (by rw [hg _ hr]; exact h0), if_neg (fun q => hr0 q.1), if_neg hm2], Kp.of_ext hEd2, fun b hb => .inl hb⟩
      ·
        have hrp : ¬ r + 1 < rs.length := by have := of_decide_eq_false hb51; omega
        refine WO.off rfl rfl rfl rfl hS rfl ?_
        refine WO.off rfl rfl rfl rfl hS rfl ?_
        refine WO.off rfl rfl rfl rfl hS rfl ?_
        refine WO.off rfl rfl rfl rfl hS rfl ?_
        refine WO.off rfl rfl rfl rfl hS rfl ?_
        refine WO.off rfl rfl rfl rfl hS rfl ?_
        refine WO.off rfl rfl rfl rfl hS rfl ?_
        refine WO.off rfl rfl rfl rfl hS rfl ?_
        refine WO.off rfl rfl rfl rfl hS rfl ?_
        refine WO.off rfl rfl rfl rfl hS rfl ?_
        refine WO.off rfl rfl rfl rfl hS rfl ?_
        refine WO.off rfl rfl rfl rfl hS rfl ?_
        refine WO.off rfl rfl rfl rfl hS rfl ?_
        refine WO.off rfl rfl rfl rfl hS rfl ?_
        refine WO.off rfl rfl rfl rfl hS rfl ?_
        refine WO.off rfl rfl rfl rfl hS rfl ?_
        refine WO.off rfl rfl rfl rfl hS rfl ?_
        refine WO.off rfl rfl rfl rfl hS rfl ?_
        refine WO.off rfl rfl rfl rfl hS rfl ?_
        refine WO.quiet rfl (fun _ _ => ok_pickF rfl rfl) hS rfl ?_
        refine WO.nil ?_
        refine WX.thenC ?_
        refine WC.condFb rfl rfl ?_
        refine WC.skip ?_
        exact WX.end0 rfl ⟨_, rfl, rfl, _, rs, some gb, by rw [set_same c so _ hc]; exact hO.ext hEd2, hR.ext hEd2, by unfold shrL; rw [if_neg (by rw [hg _ hr]; exact h0), if_neg (fun q => hr0 q.1), if_neg (by omega)], Kp.of_ext hEd2, fun b hb => .inl hb⟩
set_option maxHeartbeats 1000000 in
theorem takeW (rs : List CRun) (hd : Value) (g : Option Nat) (sb so : Nat) (e0 : TypeId) (c : List Value) (k : List UInt8) (n : ByteArray) (hk : k.length = 20) (r i : Nat) (w : World)
    (hO : Own w sb e0 c) (hc : c[so]? = some hd) (hR : RunsAt w hd rs g) (hsb : sb ∉ fp g rs) (hm : Mono (geP k n.toList) (slots rs).flatten) (hne : ∀ run ∈ slots rs, run ≠ []) (hl : ∀ x ∈ rs, x.sl.length ≤ 128) (hn : rs.length ≤ 1048576)
    (hpl : placeOf (lens (slots rs)) (cntF (geP k n.toList) (slots rs).flatten) = (r, i)) (hr : r < rs.length) :
    CallsV Try.prog 60 #[.pointer (some ⟨sb, so, none⟩), .agg (kc k).toArray, .string n] w fun v w' => ∃ hd' rs' g',
      Own w' sb e0 (c.set so hd') ∧ RunsAt w' hd' rs' g' ∧ slots rs' = takeL (slots rs) r i ∧ Kp (fun k => k = sb ∨ k ∈ fp g rs) w w' ∧ (∀ b ∈ fp g' rs', b ∈ fp g rs ∨ w.heap.size ≤ b) := by
  obtain ⟨gb, hcap, spg, rfl, rfl, hOg, hcl⟩ := hR.hd (by intro e; rw [e] at hr; simp at hr)
  have hso := lt_of_get hc
  have hcell : w.cell? ⟨sb, so, none⟩ = some (.slice (some ⟨gb, 0, none⟩) rs.length hcap) := by rw [hO.cell]; exact hc
  have e3 : sb ≠ gb := fun h => hsb (mem_fp.2 (.inl (by rw [h])))
  have hAl : (rs.map CRun.hdr).length = rs.length := by simp
  have hSh : ShAt w sb so _ rs (some gb) := ⟨hcell, hR⟩
  have hi : i < rs[r].sl.length := by have := placeOf_snd (lens (slots rs)) (cntF (geP k n.toList) (slots rs).flatten) rs[r].sl.length (by rw [hpl]; simp [lens, slots, hr]); rw [hpl] at this; exact this
  have hlr := hl _ (List.getElem_mem hr)
  obtain ⟨ln, hln⟩ : ∃ x, x = rs[r].sl.length := ⟨_, rfl⟩
  have hgbl := hOg.lt
  have hsbl := hO.lt
  have hnd := nodup_fp hR.nodup hr
  have e1 : gb ≠ rs[r].b := hnd.1 gb rfl
  have e2 : sb ≠ rs[r].b := fun h => hsb (mem_fp.2 (.inr ⟨_, List.getElem_mem hr, h.symm⟩))
  have hRbl : rs[r].b < w.heap.size := hR.lt _ (mem_fp.2 (.inr ⟨_, List.getElem_mem hr, rfl⟩))
  have hmin : Nat.min (rs[r].sl.length - (i + 1)) (rs[r].sl.length - i) = rs[r].sl.length - (i + 1) := by show min _ _ = _; omega
  refine calls_intro (args := [_, _, _]) Try.func60 rfl Try.ntmps60 rfl ?_
  refine WC.seq ?_
  refine WC.region ?_
  refine WL.box (c := kc k) rfl rfl rfl ?_
  intro b4 w4 hb4 ho4 hk4 hs4
  refine WL.alloc zero54 rfl ?_
  intro b6 w6 hb6 ho6 hk6 hs6
  have hE6 : Ext w w6 := hk4.trans hk6
  refine WL.nil ?_
  refine WX.thenC ?_
  refine WC.seq ?_
  refine WC.region ?_
  refine WL.step (ok_move rfl) rfl ?_
  refine WL.step (ok_loadN rfl agg33 sz33 (by simp [hk]) ((ho4.ext hk6).rd0)) rfl ?_
  refine WL.step (ok_move rfl) rfl ?_
  refine WL.call (ok_callF rfl isfn50) rfl (findW rs _ (some gb) sb so k n hk _ (hSh.ext hE6) hm hne (fun r hr => Nat.le_trans (hl r hr) (by decide)) hn) ?_
  rintro v w15 ⟨r', i', hpl', rfl, hE15⟩
  rw [hpl] at hpl'
  obtain ⟨rfl, rfl⟩ := Prod.mk.inj hpl'
  refine WL.step (ok_move rfl) rfl ?_
  refine WL.step (ok_extract rfl rfl) rfl ?_
  refine WL.step (ok_extract rfl rfl) rfl ?_
  refine WL.alloc zero92 rfl ?_
  intro b7 w7 hb7 ho7 hk7 hs7
  refine WL.store rfl rfl sz92 (ho7) (by simp [Value.cells]) (by simp [Value.cells]) (by simp [Value.cells, Value.oneCell']) ?_
  intro wr1 hor1 hkr1 hsr1
  have z4 := hk4.size
  have z6 := hk6.size
  have z15 := hE15.size
  have h7 : Own wr1 b7 92 [.int .i64 (r : Nat), .int .i64 (i : Nat)] := hor1
  have hEr : Ext w wr1 := ((hE6.trans hE15).trans hk7).over hkr1 (fun i hi e => by omega)
  have hSr := hSh.ext hEr
  have hOr := hO.ext hEr
  have hRr := hR.ext hEr
  have hOgr := hOg.ext hEr
  have hrun := hRr.run rs[r] (List.getElem_mem hr)
  obtain ⟨sp, hRo, hRl, hRc⟩ := hrun.own
  have hb7l := h7.lt
  have h6r : Own wr1 b6 54 zslot := hkr1.own (((show Own w6 b6 54 zslot from ho6).ext hE15).ext hk7) (by omega)
  refine WL.step (ok_assign rfl) rfl ?_
  refine WL.nil ?_
  refine WX.thenC ?_
  refine WC.seq ?_
  refine WC.drawE [] 7 [(0, true), (1, true), (2, true), (3, true), (4, true), (5, true), (6, true), (7, true), (8, true)] mixed (by kernel_rfl) (fun hS => ?_)
  refine WO.quiet rfl (fun _ _ => ok_move rfl) hS rfl ?_
  refine WO.quiet rfl (fun _ _ => ok_nilCheck rfl) hS rfl ?_
  refine WO.quiet rfl (fun _ _ => ok_field rfl fld80_0) hS rfl ?_
  refine WO.quiet rfl (fun _ hw => ok_load rfl one45 (Kp.cell hw (hSr.cell) (fun f => f))) hS rfl ?_
  refine WO.quiet rfl (fun _ _ => ok_field rfl fld92_0) hS rfl ?_
  refine WO.quiet rfl (fun _ hw => ok_load rfl one3 (Kp.cell hw (h7.cell 0) (fun f => f))) hS rfl ?_
  refine WO.quiet rfl (fun _ _ => ok_indexS _ rfl rfl rfl (by omega) Try.underlying45 sz49) hS rfl ?_
  refine WO.quiet rfl (fun _ hw => ok_load rfl one49 (Kp.cell hw (rd_hdr hOgr r hr) (fun f => f))) hS rfl ?_
  refine WO.quiet rfl (fun _ _ => ok_assign rfl) hS rfl ?_
  refine WO.nil ?_
  refine WX.thenC ?_
  refine WC.seq ?_
  refine WC.region ?_
  refine WL.step (ok_move rfl) rfl ?_
  refine WL.step (ok_field rfl fld92_1) rfl ?_
  refine WL.step (ok_load rfl one3 (h7.drew.cell 1)) rfl ?_
  refine WL.step (ok_indexS i rfl rfl rfl (by omega) Try.underlying49 sz54) rfl ?_
  refine WL.step (ok_loadN rfl agg54 sz54 (Slot.len hrun.1 _ (List.getElem_mem hi)) (((hrun.slot i hi).kp (show Ext wr1 wr1.drew from Kp.drew _ _) (fun f => f)))) rfl ?_
  refine WL.alloc zero54 rfl ?_
  intro b10 w10 hb10 ho10 hk10 hs10
  refine WL.store rfl rfl sz54 (ho10) (by simpa [Value.cells] using Slot.len hrun.1 _ (List.getElem_mem hi)) (by simp [Value.cells, Slot.len hrun.1 _ (List.getElem_mem hi)]) (Slot.one (hrun.1 _ (List.getElem_mem hi))) ?_
  intro wr3 hor3 hkr3 hsr3
  have h10 : Own wr3 b10 54 rs[r].sl[i].cells := by
    have := hor3
    simp only [Value.cells] at this
    rw [splice_all _ _ (by simp [Slot.len hrun.1 _ (List.getElem_mem hi)])] at this
    exact this
  have hE3 : Ext wr1 wr3 := ((Kp.drew _ _).trans hk10).over hkr3 (fun i hi e => by simp at *; omega)
  have h73 := h7.ext hE3
  have hRo3 := hRo.ext hE3
  have hOg3 := hOgr.ext hE3
  have hO3 := hOr.ext hE3
  have h63 := h6r.ext hE3
  have z3 := hE3.size
  have zr := hEr.size
  have hb10 : wr1.heap.size ≤ b10 := by simp at hb10; omega
  have hb10l := h10.lt
  have hdl : (encS (rs[r].sl.drop (i + 1))).length = (rs[r].sl.length - (i + 1)) * 23 := by rw [encS_length (hrun.1.drop (i + 1)), List.length_drop]
  have hel := encS_length hrun.1
  refine WL.nil ?_
  refine WX.thenC ?_
  refine WC.seq ?_
  refine WC.drawE [9] 5 [(0, true), (1, true), (2, true), (3, true), (4, true), (5, true), (6, true), (7, true), (8, true), (9, false)] mixed (by kernel_rfl) (fun hS => ?_)
  refine WO.quiet rfl (fun _ _ => ok_move rfl) hS rfl ?_
  refine WO.quiet rfl (fun _ _ => ok_field rfl fld92_1) hS rfl ?_
  refine WO.quiet rfl (fun _ hw => ok_load rfl one3 (Kp.cell hw (h73.cell 1) (fun f => f))) hS rfl ?_
  refine WO.quiet rfl (fun _ _ => ok_sliceS i rs[r].sl.length rfl Try.underlying49 sz54 rfl rfl (by omega) (by omega)) hS rfl ?_
  refine WO.rew 34 (.slice (some ⟨rs[r].b, 0 + i * 23, none⟩) (rs[r].sl.length - i) (rs[r].cap - i)) rfl (by rw [if_neg (by omega)]) ?_
  refine WO.quiet rfl (fun _ _ => ok_move rfl) hS rfl ?_
  refine WO.quiet rfl (fun _ _ => ok_field rfl fld92_1) hS rfl ?_
  refine WO.quiet rfl (fun _ hw => ok_load rfl one3 (Kp.cell hw (h73.cell 1) (fun f => f))) hS rfl ?_
  refine WO.quiet rfl (fun _ _ => ok_add ((i + 1 : Nat) : Int) rfl rfl (by omega) (by omega) (by omega)) hS rfl ?_
  refine WO.quiet rfl (fun _ _ => ok_sliceS (i + 1) rs[r].sl.length rfl Try.underlying49 sz54 rfl rfl (by omega) (by omega)) hS rfl ?_
  refine WO.rew 39 (.slice (some ⟨rs[r].b, (if rs[r].cap = i + 1 then 0 else 0 + (i + 1) * 23), none⟩) (rs[r].sl.length - (i + 1)) (rs[r].cap - (i + 1))) rfl (by split <;> rfl) ?_
  have hrd : Rd wr3.drew rs[r].b (if rs[r].cap = i + 1 then 0 else 0 + (i + 1) * 23) (encS (rs[r].sl.drop (i + 1))) := by
    split
    · rw [List.drop_of_length_le (by omega)]; intro j v hv; simp [encS] at hv
    · have h0 : Rd wr3.drew rs[r].b 0 (encS rs[r].sl) := hRo3.drew.rd0.append_left
      rw [← List.take_append_drop (i + 1) rs[r].sl, encS_append] at h0
      have h1 := h0.append_right
      rw [encS_length (hrun.1.take (i + 1)), List.length_take, Nat.min_eq_left (by omega)] at h1
      exact h1
  refine WO.copy (cs := encS (rs[r].sl.drop (i + 1))) rfl rfl rfl rfl Try.underlying49 sz54 hRo3.drew (by rw [hmin, hdl]) hrd (by rw [hdl]; simp only [List.length_append, hel]; omega) (encS_one (hrun.1.drop (i + 1))) ?_
  intro w40 ho40 hk40 hs40
  refine ⟨inL rfl, ?_⟩
  have h74 := hk40.own h73.drew (by omega)
  have hOg4 := hk40.own hOg3.drew e1
  have hO4 := hk40.own hO3.drew e2
  have h104 := hk40.own h10.drew (by omega)
  have h64 := hk40.own h63.drew (by omega)
  refine WO.nil ?_
  refine WX.thenC ?_
  refine WC.seq ?_
  refine WC.region ?_
  refine WL.step (ok_move rfl) rfl ?_
  refine WL.step (ok_move rfl) rfl ?_
  refine WL.step (ok_lenSlice rfl Try.underlying49) rfl ?_
  refine WL.step (ok_sub ((ln - 1 : Nat) : Int) rfl rfl (by omega) (by omega) (by omega)) rfl ?_
  refine WL.step (build54z) rfl ?_
  refine WL.step (ok_indexS (ln - 1) rfl rfl rfl (by omega) Try.underlying49 sz54) rfl ?_
  refine WL.store rfl rfl sz54 (ho40) rfl (by simp only [Value.cells]; rw [splice_length _ _ _ (by rw [hdl]; simp only [List.length_append, hel]; omega)]; simp only [List.length_append, hel, List.toList_toArray]; show _ + 23 ≤ _; omega) zslot_ones ?_
  intro wr5 hor5 hkr5 hsr5
  have h5 : Own wr5 rs[r].b 54 (encS (rs[r].sl.eraseIdx i) ++ (zslot ++ sp)) := by
    have := hor5
    simp only [Value.cells, List.toList_toArray] at this
    rw [hln] at this
    rw [← take_cells hrun.1 sp zslot i hi rfl]
    exact this
  have h75 := hkr5.own h74 (by omega)
  have hOg5 := hkr5.own hOg4 e1
  have hO5 := hkr5.own hO4 e2
  have h105 := hkr5.own h104 (by omega)
  have h65 := hkr5.own h64 (by omega)
  have hcell5 : wr5.cell? ⟨sb, so, none⟩ = some (.slice (some ⟨gb, 0, none⟩) rs.length hcap) := by rw [(hO5).cell]; exact hc
  have hlE : (rs[r].sl.eraseIdx i).length = ln - 1 := by rw [List.length_eraseIdx, if_pos hi, hln]
  have hK5 : Kp (fun k => k = rs[r].b) wr3 wr5 := ((Kp.drew _ _).trans hk40).trans hkr5
  refine WL.nil ?_
  refine WX.thenC ?_
  refine WC.seq ?_
  refine WC.drawE [12] 6 [(0, true), (1, true), (2, true), (3, true), (4, true), (5, true), (6, true), (7, true), (8, true), (9, true), (10, true), (11, true), (12, false)] mixed (by kernel_rfl) (fun hS => ?_)
  refine WO.quiet rfl (fun _ _ => ok_move rfl) hS rfl ?_
  refine WO.quiet rfl (fun _ _ => ok_nilCheck rfl) hS rfl ?_
  refine WO.quiet rfl (fun _ _ => ok_field rfl fld80_0) hS rfl ?_
  refine WO.quiet rfl (fun _ hw => ok_load rfl one45 (Kp.cell hw (hcell5) (fun f => f))) hS rfl ?_
  refine WO.quiet rfl (fun _ _ => ok_field rfl fld92_0) hS rfl ?_
  refine WO.quiet rfl (fun _ hw => ok_load rfl one3 (Kp.cell hw (h75.cell 0) (fun f => f))) hS rfl ?_
  refine WO.quiet rfl (fun _ _ => ok_move rfl) hS rfl ?_
  refine WO.quiet rfl (fun _ _ => ok_move rfl) hS rfl ?_
  refine WO.quiet rfl (fun _ _ => ok_lenSlice rfl Try.underlying49) hS rfl ?_
  refine WO.quiet rfl (fun _ _ => ok_sub ((ln - 1 : Nat) : Int) rfl rfl (by omega) (by omega) (by omega)) hS rfl ?_
  refine WO.quiet rfl (fun _ _ => ok_sliceS 0 (ln - 1) rfl Try.underlying49 sz54 rfl rfl (by omega) (by omega)) hS rfl ?_
  refine WO.rew 57 (.slice (some ⟨rs[r].b, 0, none⟩) (ln - 1) rs[r].cap) rfl (by split <;> rfl) ?_
  refine WO.quiet rfl (fun _ _ => ok_indexS _ rfl rfl rfl (by omega) Try.underlying45 sz49) hS rfl ?_
  refine WO.store rfl rfl rfl sz49 (hOg5.drew) (by simp [Value.cells]) (by simp [Value.cells]; omega) (by simp [Value.cells, Value.oneCell']) ?_
  intro wr6 hor6 hkr6 hsr6
  refine ⟨(inL rfl), ?_⟩
  have hrow : Own wr6 gb 49 ((rs.map CRun.hdr).set r (.slice (some ⟨rs[r].b, 0, none⟩) (ln - 1) rs[r].cap) ++ spg) := by
    have := hor6
    simp only [Value.cells] at this
    rw [show (0 + r * 1) = r by omega] at this
    rw [← splice_set _ _ _ _ (by simpa using hr)]
    exact this
  have hK6 : Kp (fun k => k = sb ∨ k = gb ∨ k = rs[r].b) w wr6 := ((Kp.of_ext (hEr.trans hE3)).trans (hK5.mono (fun k _ q => .inr (.inr q)))).trans ((Kp.drew _ _).trans (hkr6.mono (fun k _ q => .inr (.inl q))))
  have hsok : OkS (rs[r].sl.eraseIdx i) := fun s hs => hrun.1 s (List.mem_of_mem_eraseIdx hs)
  have hCok : RunOk wr6 ⟨rs[r].b, rs[r].cap, rs[r].sl.eraseIdx i⟩ := RunOk.mk hsok (hkr6.own h5.drew (Ne.symm e1)) (by rw [encS_length hsok, hlE, List.length_append]; show _ + (23 + _) = _; omega) (by rw [hlE]; omega)
  have hR6 : RunsAt wr6 (.slice (some ⟨gb, 0, none⟩) rs.length hcap) (rs.set r ⟨rs[r].b, rs[r].cap, rs[r].sl.eraseIdx i⟩) (some gb) := asm_set hR hr _ hK6 hsb rfl (by simpa [CRun.hdr, hlE] using hrow) hcl hCok (.inl rfl)
  have hO6 := hkr6.own hO5.drew e3
  have h76 := hkr6.own h75.drew (by omega)
  have h106 := hkr6.own h105.drew (by omega)
  have h66 := hkr6.own h65.drew (by omega)
  have hfp6 : ∀ b ∈ fp (some gb) (rs.set r ⟨rs[r].b, rs[r].cap, rs[r].sl.eraseIdx i⟩), b ∈ fp (some gb) rs := by
    intro b hb
    rcases mem_fp.1 hb with h | ⟨x, hx, rfl⟩
    · exact mem_fp.2 (.inl h)
    · rcases List.mem_or_eq_of_mem_set hx with h | h
      · exact mem_fp.2 (.inr ⟨x, h, rfl⟩)
      · subst h; exact mem_fp.2 (.inr ⟨_, List.getElem_mem hr, rfl⟩)
  have hne6 : ∀ j (h : j < (rs.set r ⟨rs[r].b, rs[r].cap, rs[r].sl.eraseIdx i⟩).length), j ≠ r → (rs.set r ⟨rs[r].b, rs[r].cap, rs[r].sl.eraseIdx i⟩)[j].sl ≠ [] := by
    intro j h hj
    rw [List.getElem_set_ne (Ne.symm hj)]
    exact hne _ (by simp only [slots, List.mem_map]; exact ⟨_, List.getElem_mem (by simpa using h), rfl⟩)
  have hl6 : ∀ x ∈ rs.set r ⟨rs[r].b, rs[r].cap, rs[r].sl.eraseIdx i⟩, x.sl.length ≤ 128 := by
    intro x hx
    rcases List.mem_or_eq_of_mem_set hx with h | h
    · exact hl x h
    · subst h; show (rs[r].sl.eraseIdx i).length ≤ 128; omega
  refine WO.nil ?_
  refine WX.thenC ?_
  refine WC.seq ?_
  refine WC.region ?_
  refine WL.step (ok_move rfl) rfl ?_
  refine WL.step (ok_field rfl fld92_0) rfl ?_
  refine WL.step (ok_load rfl one3 (h76.cell 0)) rfl ?_
  refine WL.call (ok_callF rfl isfn68) rfl (shrunkW (rs.set r ⟨rs[r].b, rs[r].cap, rs[r].sl.eraseIdx i⟩) _ (some gb) sb so e0 c r _ hO6 hc hR6 (fun h => hsb (hfp6 _ h)) (by simpa using hr) hne6 hl6 (by simpa using hn)) ?_
  rintro v w62 ⟨rfl, hd', rs', g', q1, q2, q3, q4, q5⟩
  have n10 : ¬ (b10 = sb ∨ b10 ∈ fp (some gb) (rs.set r ⟨rs[r].b, rs[r].cap, rs[r].sl.eraseIdx i⟩)) := by
    rintro (h | h)
    · omega
    · have := hR.lt b10 (hfp6 _ h); omega
  have n6 : ¬ (b6 = sb ∨ b6 ∈ fp (some gb) (rs.set r ⟨rs[r].b, rs[r].cap, rs[r].sl.eraseIdx i⟩)) := by
    rintro (h | h)
    · omega
    · have := hR.lt b6 (hfp6 _ h); omega
  have h1062 := q4.own h106 n10
  have h662 := q4.own h66 n6
  have hK62 : Kp (fun k => k = sb ∨ k ∈ fp (some gb) rs) w w62 := (hK6.mono (fun k _ q => q.elim .inl (fun q => .inr (q.elim (fun q => mem_fp.2 (.inl (by rw [q]))) (fun q => mem_fp.2 (.inr ⟨_, List.getElem_mem hr, q.symm⟩)))))).trans (q4.mono (fun k _ q => q.elim .inl (fun q => .inr (hfp6 k q))))
  refine WL.nil ?_
  refine WX.thenC ?_
  refine WC.seq ?_
  refine WC.region ?_
  refine WL.step (ok_loadN rfl agg54 sz54 (Slot.len hrun.1 _ (List.getElem_mem hi)) (h1062.rd0)) rfl ?_
  refine WL.store rfl rfl sz54 (h662) (by simpa [Value.cells] using Slot.len hrun.1 _ (List.getElem_mem hi)) (by simp only [Value.cells, List.toList_toArray]; rw [Slot.len hrun.1 _ (List.getElem_mem hi)]; decide) (Slot.one (hrun.1 _ (List.getElem_mem hi))) ?_
  intro wr8 hor8 hkr8 hsr8
  refine WL.nil ?_
  refine WX.thenC ?_
  refine WC.ret ?_
  have hb6l : w.heap.size ≤ b6 := by omega
  have hfinal : Kp (fun k => k = sb ∨ k ∈ fp (some gb) rs) w wr8 := hK62.over hkr8 (fun k hk e => by omega)
  have hns6 : sb ≠ b6 := by omega
  refine WX.retC (vs := rs[r].sl[i].cells) rfl rfl agg54 (by rw [Slot.len hrun.1 _ (List.getElem_mem hi)]; exact sz54) ?_ ⟨_, rfl, hd', rs', g', hkr8.own q1 hns6, q2.kp hkr8 ?_, ?_, hfinal, ?_⟩
  · have := hor8.rd0
    simp only [Value.cells, List.toList_toArray] at this
    rw [splice_all _ _ (by rw [Slot.len hrun.1 _ (List.getElem_mem hi)]; rfl)] at this
    exact this
  · intro b hb e
    subst e
    rcases q5 _ hb with h | h
    · have := hR.lt _ (hfp6 _ h); omega
    · have := h66.lt; omega
  · rw [q3]
    unfold takeL
    have h1 : (slots rs).getD r [] = rs[r].sl := by simp [List.getD, slots, hr]
    rw [h1]
    congr 1
    simp [slots, List.map_set]
  · intro b hb
    rcases q5 b hb with h | h
    · exact .inl (hfp6 b h)
    · exact .inr (Nat.le_trans hK6.size h)

end Go.Proofs.Try
