/- Walk: insert. -/
import Derived.Test.Qxb6605723aW5
import Derived.Test.Qxb6605723aIns
set_option linter.unusedVariables false
set_option linter.unusedSimpArgs false
set_option maxRecDepth 100000
namespace Go.Proofs.Try
open Go.Sx Go.Pl

theorem zslot_ones : ∀ u ∈ zslot, u.oneCell' = true := zslot_one' rfl

set_option maxHeartbeats 2000000 in
theorem insertW (rs : List CRun) (hd : Value) (g : Option Nat) (sb so : Nat) (e0 : TypeId) (c : List Value) (r i : Nat) (e : Slot) (w : World)
    (hO : Own w sb e0 c) (hc : c[so]? = some hd) (hR : RunsAt w hd rs g) (hsb : sb ∉ fp g rs) (he : OkSl e) (hpos : ∀ (h : r < rs.length), i ≤ rs[r].sl.length) (hrle : r ≤ rs.length)
    (hl : ∀ r ∈ rs, r.sl.length ≤ 128) (hn : rs.length ≤ 1048576) :
    CallsV Try.prog 51 #[.pointer (some ⟨sb, so, none⟩), .agg #[.int .i64 (r : Nat), .int .i64 (i : Nat)], .agg e.cells.toArray] w fun v w' => v = .tuple #[] ∧ ∃ hd' rs' g',
      Own w' sb e0 (c.set so hd') ∧ RunsAt w' hd' rs' g' ∧ slots rs' = insAt (slots rs) r i e ∧ Kp (fun k => k = sb ∨ k ∈ fp g rs) w w' ∧ (∀ b ∈ fp g' rs', b ∈ fp g rs ∨ w.heap.size ≤ b) := by
  obtain ⟨ha, hcap, rfl⟩ := hR.hdl
  have hec : e.cells.length = 23 := Slot.len (l := [e]) (by intro s hs; simp at hs; subst hs; exact he) e (by simp)
  have hso := lt_of_get hc
  have hsbl := hO.lt
  refine calls_intro (args := [_, _, _]) Try.func51 rfl Try.ntmps51 rfl ?_
  refine WC.seq ?_
  refine WC.region ?_
  refine WL.box (c := [.int .i64 (r : Nat), .int .i64 (i : Nat)]) rfl rfl rfl ?_
  intro b4 w4 hb4 ho4 hk4 hs4
  refine WL.box (c := e.cells) rfl rfl rfl ?_
  intro b5 w5 hb5 ho5 hk5 hs5
  have hE5 : Ext w w5 := hk4.trans hk5
  have q4 := ho4.ext hk5
  have hO5 := hO.ext hE5
  have hcell5 : w5.cell? ⟨sb, so, none⟩ = some (.slice ha rs.length hcap) := by rw [hO5.cell]; exact hc
  refine WL.nil ?_
  refine WX.thenC ?_
  refine WC.seq ?_
  refine WC.seq ?_
  refine WC.region ?_
  refine WL.step (ok_move rfl) rfl ?_
  refine WL.step (ok_nilCheck rfl) rfl ?_
  refine WL.step (ok_field rfl fld80_0) rfl ?_
  refine WL.step (ok_load rfl one45 (hcell5)) rfl ?_
  refine WL.step (ok_lenSlice rfl Try.underlying45) rfl ?_
  refine WL.step (ok_eql rfl rfl) rfl ?_
  refine WL.nil ?_
  refine WX.thenC ?_
  refine WC.cond rfl (fun hc13 => ?_) (fun hc13 => ?_)
  ·
    have hnil : rs = [] := List.eq_nil_of_length_eq_zero (by have := of_decide_eq_true hc13; omega)
    subst hnil
    refine WC.seq ?_
    refine WC.region ?_
    refine WL.step (ok_move rfl) rfl ?_
    refine WL.step (ok_loadN rfl agg54 sz54 hec (ho5.rd0)) rfl ?_
    refine WL.buildSlice (size := 23) e.cells elt49 (by decide) (by decide) rfl (fill_one 23 _ (.agg e.cells.toArray) (by simp) (by simp [Value.cells, hec])) rfl ?_
    intro b16 w16 hb16 ho16 hk16 hs16
    refine WL.buildSlice (size := 1) [.slice (some ⟨b16, 0, none⟩) 1 1] elt45 (by decide) (by decide) rfl (fill_one 1 _ (.slice (some ⟨b16, 0, none⟩) 1 1) (by simp) rfl) rfl ?_
    intro b17 w17 hb17 ho17 hk17 hs17
    refine WL.step (ok_nilCheck rfl) rfl ?_
    refine WL.step (ok_field rfl fld80_0) rfl ?_
    refine WL.store rfl rfl sz45 ((hO5.ext hk16).ext hk17) (by simp [Value.cells]) (by simp [Value.cells]; omega) (by simp [Value.cells, Value.oneCell']) ?_
    intro wr2 hor2 hkr2 hsr2
    refine WL.nil ?_
    refine WX.thenC ?_
    refine WC.ret ?_
    refine WX.thenR ?_
    refine WX.ret0 rfl ⟨_, rfl, rfl, .slice (some ⟨b17, 0, none⟩) 1 1, [⟨b16, 1, [e]⟩], some b17, ?_, ⟨.inr ⟨b17, 1, [], rfl, hkr2.own ho17 (by omega), by simp, by simp, by simp, rfl⟩, ?_, ?_⟩, ?_, ?_, ?_⟩
    · have := hor2
      simp only [Value.cells] at this
      rw [← splice_one c so _ hso]
      exact this
    · intro x hx
      simp at hx
      subst hx
      exact RunOk.mk (spare := []) (by intro s hs; simp at hs; subst hs; exact he) (by have := hkr2.own (ho16.ext hk17) (by omega); simpa [encS] using this) (by simp [encS, hec]) (by simp)
    · simp [fp]; omega
    · simp [slots, insAt]
    · exact (Kp.of_ext ((hE5.trans hk16).trans hk17)).over hkr2 (fun k h1 h2 => .inl h2)
    · intro b hb
      right
      simp [fp] at hb
      omega
  ·
    have hne : rs ≠ [] := by intro h; rw [h] at hc13; simp at hc13
    have hpl : 0 < rs.length := List.length_pos_iff.2 hne
    obtain ⟨gb, hcap', spg, heq, rfl, hOg, hcl⟩ := hR.hd hne
    cases heq
    refine WC.skip ?_
    refine WX.thenC ?_
    refine WC.cut (fun x : Nat × Nat => [(0, .pointer (some ⟨sb, so, none⟩)), (4, .pointer (some ⟨b4, 0, none⟩)), (5, .pointer (some ⟨b5, 0, none⟩))])
      (fun x w' => x = norm (slots rs) r i ∧ (∃ hx : x.1 < rs.length, x.2 ≤ rs[x.1].sl.length) ∧ Own w' b4 92 [.int .i64 (x.1 : Nat), .int .i64 (x.2 : Nat)] ∧ Own w' b5 54 e.cells ∧ Ext w w') ?_ ?_
    ·
      refine WC.seq ?_
      refine WC.drawE [] 6 [(0, true), (1, true), (2, true), (3, true), (4, true), (5, true), (6, true), (7, true)] mixed (by kernel_rfl) (fun hS => ?_)
      refine WO.quiet rfl (fun _ _ => ok_field rfl fld92_0) hS rfl ?_
      refine WO.quiet rfl (fun _ hw => ok_load rfl one3 (Kp.cell hw (q4.cell 0) (fun f => f))) hS rfl ?_
      refine WO.quiet rfl (fun _ _ => ok_move rfl) hS rfl ?_
      refine WO.quiet rfl (fun _ _ => ok_nilCheck rfl) hS rfl ?_
      refine WO.quiet rfl (fun _ _ => ok_field rfl fld80_0) hS rfl ?_
      refine WO.quiet rfl (fun _ hw => ok_load rfl one45 (Kp.cell hw (hcell5) (fun f => f))) hS rfl ?_
      refine WO.quiet rfl (fun _ _ => ok_lenSlice rfl Try.underlying45) hS rfl ?_
      refine WO.quiet rfl (fun _ _ => ok_eql rfl rfl) hS rfl ?_
      refine WO.nil ?_
      refine WX.thenC ?_
      refine WC.cond rfl (fun hc27 => ?_) (fun hc27 => ?_)
      ·
        have hre : r = rs.length := by have := of_decide_eq_true hc27; omega
        have hr1 : r - 1 < rs.length := by omega
        have hlb := hl _ (List.getElem_mem hr1)
        refine WC.drawE [14] 9 [(0, true), (1, true), (2, true), (3, true), (4, true), (5, true), (6, true), (7, true), (8, true), (9, true), (10, true), (11, true), (12, true), (13, true), (14, false)] mixed (by kernel_rfl) (fun hS => ?_)
        refine WO.quiet rfl (fun _ _ => ok_field rfl fld92_0) hS rfl ?_
        refine WO.quiet rfl (fun _ hw => ok_load rfl one3 (Kp.cell hw (q4.drew.cell 0) (fun f => f))) hS rfl ?_
        refine WO.quiet rfl (fun _ _ => ok_sub ((r - 1 : Nat) : Int) rfl rfl (by omega) (by omega) (by omega)) hS rfl ?_
        refine WO.quiet rfl (fun _ _ => ok_move rfl) hS rfl ?_
        refine WO.quiet rfl (fun _ _ => ok_nilCheck rfl) hS rfl ?_
        refine WO.quiet rfl (fun _ _ => ok_field rfl fld80_0) hS rfl ?_
        refine WO.quiet rfl (fun _ hw => ok_load rfl one45 (Kp.cell hw (hcell5) (fun f => f))) hS rfl ?_
        refine WO.quiet rfl (fun _ _ => ok_field rfl fld92_0) hS rfl ?_
        refine WO.quiet rfl (fun _ hw => ok_load rfl one3 (Kp.cell hw (q4.drew.cell 0) (fun f => f))) hS rfl ?_
        refine WO.quiet rfl (fun _ _ => ok_sub ((r - 1 : Nat) : Int) rfl rfl (by omega) (by omega) (by omega)) hS rfl ?_
        refine WO.quiet rfl (fun _ _ => ok_indexS (r - 1) rfl rfl rfl (by omega) Try.underlying45 sz49) hS rfl ?_
        refine WO.quiet rfl (fun _ hw => ok_load rfl one49 (Kp.cell hw (rd_hdr ((hOg.ext hE5).drew) (r - 1) hr1) (fun f => f))) hS rfl ?_
        refine WO.quiet rfl (fun _ _ => ok_lenSlice rfl Try.underlying49) hS rfl ?_
        refine WO.quiet rfl (fun _ _ => build92b rfl rfl) hS rfl ?_
        refine WO.store rfl rfl rfl sz92 (q4.drew.drew) (by simp [Value.cells]) (by simp [Value.cells]) (by simp [Value.cells, Value.oneCell']) ?_
        intro wr4 hor4 hkr4 hsr4
        refine ⟨(inL rfl), ?_⟩
        refine WO.nil ?_
        exact WX.again (r - 1, rs[r - 1].sl.length) (by repeat (first | exact trivial | refine ⟨rfl, ?_⟩)) ⟨(norm_end hre hr1).symm, ⟨hr1, Nat.le_refl _⟩, hor4, hkr4.own ho5.drew.drew (by omega), ((hE5.trans (Kp.drew _ _)).trans (Kp.drew _ _)).over hkr4 (fun i hi e => by omega)⟩ Nat.zero_lt_one
      ·
        have hrl : r < rs.length := by have := of_decide_eq_false hc27; omega
        refine WC.skip ?_
        exact WX.again (r, i) (by repeat (first | exact trivial | refine ⟨rfl, ?_⟩)) ⟨(norm_lt hrl).symm, ⟨hrl, hpos hrl⟩, q4.drew, ho5.drew, hE5.trans (Kp.drew _ _)⟩ Nat.zero_lt_one
    ·
      rintro ⟨r', i'⟩ w6 ⟨hnorm, ⟨hlt, hil⟩, h4, h5, hE6⟩
      simp only at hlt hil h4
      have hcell6 : w6.cell? ⟨sb, so, none⟩ = some (.slice (some ⟨gb, 0, none⟩) rs.length hcap) := by rw [(hO.ext hE6).cell]; exact hc
      have hrun := hR.run rs[r'] (List.getElem_mem hlt)
      have hlr := hl _ (List.getElem_mem hlt)
      have hRbl : rs[r'].b < w.heap.size := hR.lt _ (mem_fp.2 (.inr ⟨_, List.getElem_mem hlt, rfl⟩))
      have hgbl : gb < w.heap.size := hR.lt _ (mem_fp.2 (.inl rfl))
      have e1 : gb ≠ rs[r'].b := (nodup_fp hR.nodup hlt).1 gb rfl
      have e2 : sb ≠ rs[r'].b := fun h => hsb (mem_fp.2 (.inr ⟨_, List.getElem_mem hlt, h.symm⟩))
      have e3 : sb ≠ gb := fun h => hsb (mem_fp.2 (.inl (by rw [h])))
      refine WC.seq ?_
      refine WC.drawE [10, 11] 8 [(0, true), (1, true), (2, true), (3, true), (4, true), (5, true), (6, true), (7, true), (8, true), (9, false), (10, false), (11, false)] mixed (by kernel_rfl) (fun hS => ?_)
      refine WO.quiet rfl (fun _ _ => ok_move rfl) hS rfl ?_
      refine WO.quiet rfl (fun _ _ => ok_nilCheck rfl) hS rfl ?_
      refine WO.quiet rfl (fun _ _ => ok_field rfl fld80_0) hS rfl ?_
      refine WO.quiet rfl (fun _ hw => ok_load rfl one45 (Kp.cell hw (hcell6) (fun f => f))) hS rfl ?_
      refine WO.quiet rfl (fun _ _ => ok_field rfl fld92_0) hS rfl ?_
      refine WO.quiet rfl (fun _ hw => ok_load rfl one3 (Kp.cell hw (h4.cell 0) (fun f => f))) hS rfl ?_
      refine WO.quiet rfl (fun _ _ => ok_indexS _ rfl rfl rfl (by omega) Try.underlying45 sz49) hS rfl ?_
      refine WO.quiet rfl (fun _ hw => ok_load rfl one49 (Kp.cell hw (rd_hdr (hOg.ext hE6) r' hlt) (fun f => f))) hS rfl ?_
      refine WO.quiet rfl (fun _ _ => build54z) hS rfl ?_
      refine WO.buildSlice (size := 23) zslot rfl elt49 (by decide) (by decide) rfl (fill_one 23 _ (.agg zslot.toArray) (by simp) rfl) rfl ?_
      intro b51 w51 hb51 ho51 hk51 hs51
      refine ⟨fun _ => hS.trans hk51, ?_⟩
      have hE51 : Ext w w51 := (hE6.trans (Kp.drew _ _)).trans hk51
      refine WO.append (c := 1) (b := b51) (off := 0) (m := 1) (news := zslot) rfl rfl rfl rfl elt49 (hrun.2.kp hE51 (fun _ _ f => f)) rfl ho51.rd0 zslot_ones (by decide) (by omega) (by omega) ?_
      intro v52 w52 g52 hS52 hK52 hg52
      refine ⟨inL rfl, ?_⟩
      obtain ⟨b', cap', sp', rfl, hB, hBl, hBc, hcap1, rfl⟩ := hS52.some (by omega)
      have hb' : b' = rs[r'].b ∨ b' = w51.heap.size := by rcases hg52 with h | ⟨h, _⟩ <;> cases h <;> simp
      have hs51' := hE51.size
      have hlow : w.heap.size ≤ b4 := by omega
      have hb5l := h5.lt
      have hb4l := h4.lt
      have hs6 := hk51.size
      simp only [World.size_drew] at hs6
      have d1 : b' ≠ b4 := by rcases hb' with h | h <;> omega
      have d2 : b' ≠ b5 := by rcases hb' with h | h <;> omega
      have d3 : b' ≠ sb := by rcases hb' with h | h <;> omega
      have d4 : b' ≠ gb := by rcases hb' with h | h <;> omega
      have hK5 : Kp (fun k => k = sb ∨ k = gb ∨ k = rs[r'].b) w w52 := (Kp.of_ext hE51).over hK52 (fun i hi e => by cases e; exact .inr (.inr rfl))
      have n4 : ¬ (some rs[r'].b = some b4) := by simp; omega
      have n5 : ¬ (some rs[r'].b = some b5) := by simp; omega
      have ng : ¬ (some rs[r'].b = some gb) := by simp; omega
      have ns : ¬ (some rs[r'].b = some sb) := by simp; omega
      have h4b := hK52.own (h4.drew.ext hk51) n4
      have h5b := hK52.own (h5.drew.ext hk51) n5
      have hgb := hK52.own (hOg.ext hE51) ng
      have hOb := hK52.own (hO.ext hE51) ns
      have hmin : Nat.min (rs[r'].sl.length + 1 - i') (rs[r'].sl.length + 1 - (i' + 1)) = rs[r'].sl.length - i' := by show min _ _ = _; omega
      have hdl : (encS (rs[r'].sl.drop i')).length = (rs[r'].sl.length - i') * 23 := by rw [encS_length (hrun.1.drop i'), List.length_drop]
      have hel := encS_length hrun.1
      have hzl : zslot.length = 23 := rfl
      refine WO.loud rfl (ok_assign rfl) (inL rfl) rfl ?_
      refine WO.nil ?_
      refine WX.thenC ?_
      refine WC.seq ?_
      refine WC.drawE [9] 5 [(0, true), (1, true), (2, true), (3, true), (4, true), (5, true), (6, true), (7, true), (8, true), (9, false)] mixed (by kernel_rfl) (fun hS => ?_)
      refine WO.quiet rfl (fun _ _ => ok_move rfl) hS rfl ?_
      refine WO.quiet rfl (fun _ _ => ok_field rfl fld92_1) hS rfl ?_
      refine WO.quiet rfl (fun _ hw => ok_load rfl one3 (Kp.cell hw (h4b.cell 1) (fun f => f))) hS rfl ?_
      refine WO.quiet rfl (fun _ _ => ok_add ((i' + 1 : Nat) : Int) rfl rfl (by omega) (by omega) (by omega)) hS rfl ?_
      refine WO.quiet rfl (fun _ _ => ok_sliceS (i' + 1) (rs[r'].sl.length + 1) rfl Try.underlying49 sz54 rfl rfl (by omega) (by omega)) hS rfl ?_
      refine WO.rew 57 (.slice (some ⟨b', (if cap' = i' + 1 then 0 else 0 + (i' + 1) * 23), none⟩) (rs[r'].sl.length + 1 - (i' + 1)) (cap' - (i' + 1))) rfl (by split <;> rfl) ?_
      refine WO.quiet rfl (fun _ _ => ok_move rfl) hS rfl ?_
      refine WO.quiet rfl (fun _ _ => ok_field rfl fld92_1) hS rfl ?_
      refine WO.quiet rfl (fun _ hw => ok_load rfl one3 (Kp.cell hw (h4b.cell 1) (fun f => f))) hS rfl ?_
      refine WO.quiet rfl (fun _ _ => ok_sliceS i' (rs[r'].sl.length + 1) rfl Try.underlying49 sz54 rfl rfl (by omega) (by omega)) hS rfl ?_
      refine WO.rew 61 (.slice (some ⟨b', 0 + i' * 23, none⟩) (rs[r'].sl.length + 1 - i') (cap' - i')) rfl (by rw [if_neg (by omega)]) ?_
      have hrdd : Rd w52.drew b' (0 + i' * 23) (encS (rs[r'].sl.drop i')) := by
        have h0 : Rd w52.drew b' 0 (encS rs[r'].sl) := hB.drew.rd0.append_left.append_left
        rw [← List.take_append_drop i' rs[r'].sl, encS_append] at h0
        have h1 := h0.append_right
        rw [encS_length (hrun.1.take i'), List.length_take, Nat.min_eq_left hil] at h1
        exact h1
      refine WO.copy (cs := encS (rs[r'].sl.drop i')) rfl rfl rfl rfl Try.underlying49 sz54 hB.drew (by rw [hmin, hdl]) hrdd (by rw [hdl]; simp only [List.length_append, hel, hzl]; split <;> omega) (encS_one (hrun.1.drop i')) ?_
      intro w62 ho62 hk62 hs62
      refine ⟨inL rfl, ?_⟩
      have h4c := hk62.own h4b.drew (Ne.symm d1)
      have h5c := hk62.own h5b.drew (Ne.symm d2)
      have hgc := hk62.own hgb.drew (Ne.symm d4)
      have hOc := hk62.own hOb.drew (Ne.symm d3)
      refine WO.nil ?_
      refine WX.thenC ?_
      refine WC.seq ?_
      refine WC.region ?_
      refine WL.step (ok_move rfl) rfl ?_
      refine WL.step (ok_field rfl fld92_1) rfl ?_
      refine WL.step (ok_load rfl one3 (h4c.cell 1)) rfl ?_
      refine WL.step (ok_loadN rfl agg54 sz54 hec (h5c.rd0)) rfl ?_
      refine WL.step (ok_indexS i' rfl rfl rfl (by omega) Try.underlying49 sz54) rfl ?_
      refine WL.store rfl rfl sz54 (ho62) (by simpa [Value.cells] using hec) (by simp only [Value.cells]; rw [splice_length _ _ _ (by rw [hdl]; simp only [List.length_append, hel, hzl]; split <;> omega)]; simp only [List.length_append, hel, hzl, hec]; omega) (Slot.one he) ?_
      intro wr7 hor7 hkr7 hsr7
      have hor7' : Own wr7 b' 54 (encS (rs[r'].sl.take i' ++ e :: rs[r'].sl.drop i') ++ sp') := by
        have := hor7
        simp only [Value.cells] at this
        rw [ins_cells hrun.1 he zslot sp' rfl i' _ cap' hil hcap1 rfl] at this
        exact this
      have h4d := hkr7.own h4c (Ne.symm d1)
      have hgd := hkr7.own hgc (Ne.symm d4)
      have hOd := hkr7.own hOc (Ne.symm d3)
      have hcell7 : wr7.cell? ⟨sb, so, none⟩ = some (.slice (some ⟨gb, 0, none⟩) rs.length hcap) := by rw [hOd.cell]; exact hc
      have hnb : ∀ k, k < w.heap.size → k = b' → k = rs[r'].b := by intro k h1 h2; rcases hb' with h | h <;> omega
      have hK7 : Kp (fun k => k = sb ∨ k = gb ∨ k = rs[r'].b) w wr7 := ((hK5.trans (Kp.drew _ _)).over hk62 (fun k h1 h2 => .inr (.inr (hnb k h1 h2)))).over hkr7 (fun k h1 h2 => .inr (.inr (hnb k h1 h2)))
      have hsl : (rs[r'].sl.take i' ++ e :: rs[r'].sl.drop i').length = rs[r'].sl.length + 1 := by simp; omega
      have hsok : OkS (rs[r'].sl.take i' ++ e :: rs[r'].sl.drop i') := by
        intro s hs
        rcases List.mem_append.1 hs with h | h
        · exact hrun.1 s (List.mem_of_mem_take h)
        · rcases List.mem_cons.1 h with rfl | h
          · exact he
          · exact hrun.1 s (List.mem_of_mem_drop h)
      have hsz7 : w.heap.size ≤ wr7.heap.size := hK7.size
      refine WL.nil ?_
      refine WX.thenC ?_
      refine WC.seq ?_
      refine WC.drawE [8] 6 [(0, true), (1, true), (2, true), (3, true), (4, true), (5, true), (6, true), (7, true), (8, false)] mixed (by kernel_rfl) (fun hS => ?_)
      refine WO.quiet rfl (fun _ _ => ok_move rfl) hS rfl ?_
      refine WO.quiet rfl (fun _ _ => ok_nilCheck rfl) hS rfl ?_
      refine WO.quiet rfl (fun _ _ => ok_field rfl fld80_0) hS rfl ?_
      refine WO.quiet rfl (fun _ hw => ok_load rfl one45 (Kp.cell hw (hcell7) (fun f => f))) hS rfl ?_
      refine WO.quiet rfl (fun _ _ => ok_field rfl fld92_0) hS rfl ?_
      refine WO.quiet rfl (fun _ hw => ok_load rfl one3 (Kp.cell hw (h4d.cell 0) (fun f => f))) hS rfl ?_
      refine WO.quiet rfl (fun _ _ => ok_move rfl) hS rfl ?_
      refine WO.quiet rfl (fun _ _ => ok_indexS r' rfl rfl rfl (by omega) Try.underlying45 sz49) hS rfl ?_
      refine WO.store rfl rfl rfl sz49 (hgd.drew) (by simp [Value.cells]) (by simp [Value.cells]; omega) (by simp [Value.cells, Value.oneCell']) ?_
      intro wr8 hor8 hkr8 hsr8
      refine ⟨(inL rfl), ?_⟩
      have hor8' : Own wr8 gb 49 ((rs.map CRun.hdr).set r' (.slice (some ⟨b', 0, none⟩) (rs[r'].sl.length + 1) cap') ++ spg) := by
        have := hor8
        simp only [Value.cells] at this
        rw [show (0 + r' * 1) = r' by omega] at this
        rw [← splice_set _ _ _ _ (by simpa using hlt)]
        exact this
      have hRb := hkr8.own hor7'.drew d4
      have hOe := hkr8.own hOd.drew (by omega)
      have h4e := hkr8.own h4d.drew (by omega)
      have hK8 : Kp (fun k => k = sb ∨ k = gb ∨ k = rs[r'].b) w wr8 := (hK7.trans (Kp.drew _ _)).over hkr8 (fun k h1 h2 => .inr (.inl h2))
      have hKf : ∀ w', Kp (fun k => k = sb ∨ k = gb ∨ k = rs[r'].b) w w' → Kp (fun k => k = sb ∨ k ∈ fp (some gb) rs) w w' := fun w' h => h.mono (fun k _ q => q.elim .inl (fun q => .inr (q.elim (fun q => mem_fp.2 (.inl (by rw [q]))) (fun q => mem_fp.2 (.inr ⟨_, List.getElem_mem hlt, q.symm⟩)))))
      refine WO.nil ?_
      refine WX.thenC ?_
      refine WC.seq ?_
      refine WC.seq ?_
      refine WC.region ?_
      refine WL.step (ok_move rfl) rfl ?_
      refine WL.step (ok_lenSlice rfl Try.underlying49) rfl ?_
      refine WL.step (ok_leq rfl rfl) rfl ?_
      refine WL.nil ?_
      have hcell8 : wr8.cell? ⟨sb, so, none⟩ = some (.slice (some ⟨gb, 0, none⟩) rs.length hcap) := by rw [hOe.cell]; exact hc
      refine WX.thenC ?_
      refine WC.cond rfl (fun hc78 => ?_) (fun hc78 => ?_)
      ·
        have hle : rs[r'].sl.length + 1 ≤ 128 := by have := of_decide_eq_true hc78; omega
        refine WC.ret ?_
        refine WX.thenR ?_
        have hsn : slots rs ≠ [] := by intro h; have := slots_length rs; rw [h] at this; simp at this; omega
        refine WX.ret0 rfl ⟨_, rfl, rfl, .slice (some ⟨gb, 0, none⟩) rs.length hcap, rs.set r' ⟨b', cap', rs[r'].sl.take i' ++ e :: rs[r'].sl.drop i'⟩, some gb, ?_, ?_, ?_, hKf _ hK8, ?_⟩
        · rw [set_same c so _ hc]; exact hOe
        · refine asm_set hR hlt _ hK8 hsb rfl (by simpa [CRun.hdr, hsl] using hor8') hcl (RunOk.mk hsok hRb ?_ ?_) ?_
          · rw [encS_length hsok, hsl]; simp only [List.length_append, hel, hzl] at hBc; omega
          · rw [hsl]; exact hcap1
          · rcases hb' with h | h
            · exact .inl h
            · exact .inr (by rw [h]; exact hs51')
        · have hsr : r' < (slots rs).length := by rw [slots_length]; exact hlt
          have hsg : (slots rs)[r'] = rs[r'].sl := by simp [slots]
          rw [insAt_ne hsn hnorm, insRun_set hsr (by rw [hsg]; exact hil) (by rw [hsg]; exact hle), hsg]
          simp [slots, List.map_set]
        · intro b hb
          rcases mem_fp.1 hb with h | ⟨x, hx, rfl⟩
          · exact .inl (mem_fp.2 (.inl h))
          · rcases List.mem_or_eq_of_mem_set hx with h | h
            · exact .inl (mem_fp.2 (.inr ⟨x, h, rfl⟩))
            · subst h
              rcases hb' with h | h
              · exact .inl (mem_fp.2 (.inr ⟨_, List.getElem_mem hlt, h.symm⟩))
              · exact .inr (by show w.heap.size ≤ b'; omega)
      ·
        have hgt : rs[r'].sl.length = 128 := by have := of_decide_eq_false hc78; omega
        refine WC.skip ?_
        refine WX.thenC ?_
        refine WC.seq ?_
        refine WC.region ?_
        refine WL.step (ok_move rfl) rfl ?_
        refine WL.step (ok_lenSlice rfl Try.underlying49) rfl ?_
        refine WL.step (ok_quoN 2 rfl rfl rfl (by omega) (by omega)) rfl ?_
        refine WL.rew 81 (.int .i64 ((64 : Nat) : Int)) rfl (by rw [hgt]) ?_
        refine WL.step (ok_assign rfl) rfl ?_
        refine WL.nil ?_
        refine WX.thenC ?_
        refine WC.seq ?_
        refine WC.region ?_
        refine WL.step (ok_move rfl) rfl ?_
        refine WL.step (ok_move rfl) rfl ?_
        refine WL.step (ok_nilCheck rfl) rfl ?_
        refine WL.step (ok_field rfl fld80_0) rfl ?_
        refine WL.step (ok_load rfl one45 (hcell8)) rfl ?_
        refine WL.buildSlice (size := 1) [.slice none 0 0] elt45 (by decide) (by decide) rfl (fill_one 1 _ (.slice none 0 0) (by simp) rfl) rfl ?_
        intro b87 w87 hb87 ho87 hk87 hs87
        refine WL.append (c := 1) (b := b87) (off := 0) (m := 1) (news := [.slice none 0 0]) (n := rs.length) (xs := (rs.map CRun.hdr).set r' (.slice (some ⟨b', 0, none⟩) (rs[r'].sl.length + 1) cap')) rfl rfl rfl elt45 (.inr ⟨gb, hcap, spg, rfl, hor8'.ext hk87, by simp, by simpa using hcl, by omega, rfl⟩) rfl ho87.rd0 (one_cons rfl one_nil) (by decide) (by omega) (by omega) ?_
        intro v88 w88 g88 hS88 hK88 hg88
        obtain ⟨g2, cap2, sp2, rfl, hG, hGl, hGc, hcap2, rfl⟩ := hS88.some (by omega)
        have hg2 : g2 = gb ∨ g2 = w87.heap.size := by rcases hg88 with h | ⟨h, _⟩ <;> cases h <;> simp
        have hs8 := hK8.size
        have hs87' := hk87.size
        have hb'8 := hRb.lt
        have hb48 := h4e.lt
        have hg8 := hor8'.lt
        have f1 : g2 ≠ b' := by rcases hg2 with h | h <;> omega
        have f2 : g2 ≠ b4 := by rcases hg2 with h | h <;> omega
        have f3 : g2 ≠ sb := by rcases hg2 with h | h <;> omega
        have n8 : ∀ k, k ≠ gb → ¬ (some gb = some k) := fun k h q => h (by cases q; rfl)
        have hRb8 := hK88.own (hRb.ext hk87) (n8 _ d4)
        have h48 := hK88.own (h4e.ext hk87) (n8 _ (by omega))
        have hO8 := hK88.own (hOe.ext hk87) (n8 _ (by omega))
        have hK88' : Kp (fun k => k = sb ∨ k = gb ∨ k = rs[r'].b) w w88 := (hK8.trans (Kp.of_ext hk87)).over hK88 (fun k h1 h2 => by cases h2; exact .inr (.inl rfl))
        refine WL.step (ok_nilCheck rfl) rfl ?_
        refine WL.step (ok_field rfl fld80_0) rfl ?_
        refine WL.store rfl rfl sz45 (hO8) (by simp [Value.cells]) (by simp [Value.cells]; omega) (by simp [Value.cells, Value.oneCell']) ?_
        intro wr11 hor11 hkr11 hsr11
        have hor11' : Own wr11 sb e0 (c.set so (.slice (some ⟨g2, 0, none⟩) (rs.length + 1) cap2)) := by
          have := hor11
          simp only [Value.cells] at this
          rw [← splice_one c so _ hso]
          exact this
        have hcell11 : wr11.cell? ⟨sb, so, none⟩ = some (.slice (some ⟨g2, 0, none⟩) (rs.length + 1) cap2) := by rw [hor11'.cell]; simp [hso]
        have hG11 := hkr11.own hG f3
        have hRb11 := hkr11.own hRb8 d3
        have h411 := hkr11.own h48 (by omega)
        have hK11 : Kp (fun k => k = sb ∨ k = gb ∨ k = rs[r'].b) w wr11 := hK88'.over hkr11 (fun k h1 h2 => .inl h2)
        have hAl : ((rs.map CRun.hdr).set r' (.slice (some ⟨b', 0, none⟩) (rs[r'].sl.length + 1) cap')).length = rs.length := by simp
        have hcapG : rs.length + 1 + sp2.length = cap2 := by simpa using hGc
        have hmin2 : Nat.min (rs.length + 1 - (r' + 1)) (rs.length + 1 - (r' + 2)) = rs.length - (r' + 1) := by show min _ _ = _; omega
        refine WL.nil ?_
        refine WX.thenC ?_
        refine WC.seq ?_
        refine WC.drawE [16] 6 [(0, true), (1, true), (2, true), (3, true), (4, true), (5, true), (6, true), (7, true), (8, true), (9, true), (10, true), (11, true), (12, true), (13, true), (14, true), (15, true), (16, false)] mixed (by kernel_rfl) (fun hS => ?_)
        refine WO.quiet rfl (fun _ _ => ok_move rfl) hS rfl ?_
        refine WO.quiet rfl (fun _ _ => ok_nilCheck rfl) hS rfl ?_
        refine WO.quiet rfl (fun _ _ => ok_field rfl fld80_0) hS rfl ?_
        refine WO.quiet rfl (fun _ hw => ok_load rfl one45 (Kp.cell hw (hcell11) (fun f => f))) hS rfl ?_
        refine WO.quiet rfl (fun _ _ => ok_field rfl fld92_0) hS rfl ?_
        refine WO.quiet rfl (fun _ hw => ok_load rfl one3 (Kp.cell hw (h411.cell 0) (fun f => f))) hS rfl ?_
        refine WO.quiet rfl (fun _ _ => ok_add ((r' + 2 : Nat) : Int) rfl rfl (by omega) (by omega) (by omega)) hS rfl ?_
        refine WO.quiet rfl (fun _ _ => ok_sliceS (r' + 2) (rs.length + 1) rfl Try.underlying45 sz49 rfl rfl (by omega) (by omega)) hS rfl ?_
        refine WO.rew 98 (.slice (some ⟨g2, (if cap2 = r' + 2 then 0 else 0 + (r' + 2) * 1), none⟩) (rs.length + 1 - (r' + 2)) (cap2 - (r' + 2))) rfl (by split <;> rfl) ?_
        refine WO.quiet rfl (fun _ _ => ok_move rfl) hS rfl ?_
        refine WO.quiet rfl (fun _ _ => ok_nilCheck rfl) hS rfl ?_
        refine WO.quiet rfl (fun _ _ => ok_field rfl fld80_0) hS rfl ?_
        refine WO.quiet rfl (fun _ hw => ok_load rfl one45 (Kp.cell hw (hcell11) (fun f => f))) hS rfl ?_
        refine WO.quiet rfl (fun _ _ => ok_field rfl fld92_0) hS rfl ?_
        refine WO.quiet rfl (fun _ hw => ok_load rfl one3 (Kp.cell hw (h411.cell 0) (fun f => f))) hS rfl ?_
        refine WO.quiet rfl (fun _ _ => ok_add ((r' + 1 : Nat) : Int) rfl rfl (by omega) (by omega) (by omega)) hS rfl ?_
        refine WO.quiet rfl (fun _ _ => ok_sliceS (r' + 1) (rs.length + 1) rfl Try.underlying45 sz49 rfl rfl (by omega) (by omega)) hS rfl ?_
        refine WO.rew 106 (.slice (some ⟨g2, 0 + (r' + 1) * 1, none⟩) (rs.length + 1 - (r' + 1)) (cap2 - (r' + 1))) rfl (by rw [if_neg (by omega)]) ?_
        have hrdg : Rd wr11.drew g2 (0 + (r' + 1) * 1) (((rs.map CRun.hdr).set r' (.slice (some ⟨b', 0, none⟩) (rs[r'].sl.length + 1) cap')).drop (r' + 1)) := by
          have h0 := hG11.drew.rd0.append_left.append_left
          rw [← List.take_append_drop (r' + 1) ((rs.map CRun.hdr).set r' _)] at h0
          have h1 := h0.append_right
          rw [List.length_take, hAl, Nat.min_eq_left (by omega)] at h1
          rw [Nat.mul_one]
          exact h1
        refine WO.copy (cs := ((rs.map CRun.hdr).set r' (.slice (some ⟨b', 0, none⟩) (rs[r'].sl.length + 1) cap')).drop (r' + 1)) rfl rfl rfl rfl Try.underlying45 sz49 hG11.drew (by rw [hmin2, List.length_drop, hAl, Nat.mul_one]) hrdg (by rw [List.length_drop, hAl]; simp only [List.length_append, hAl, List.length_cons, List.length_nil]; split <;> omega) (fun u hu => hdrs_one rs r' _ _ _ u (List.mem_of_mem_drop hu)) ?_
        intro w107 ho107 hk107 hs107
        refine ⟨inL rfl, ?_⟩
        have hO12 := hk107.own hor11'.drew (Ne.symm f3)
        have hcell12 : w107.cell? ⟨sb, so, none⟩ = some (.slice (some ⟨g2, 0, none⟩) (rs.length + 1) cap2) := by rw [hO12.cell]; simp [hso]
        have hRb12 := hk107.own hRb11.drew (Ne.symm f1)
        have h412 := hk107.own h411.drew (Ne.symm f2)
        have hng : ∀ k, k < w.heap.size → k = g2 → k = gb := by intro k h1 h2; rcases hg2 with h | h <;> omega
        have hK12 : Kp (fun k => k = sb ∨ k = gb ∨ k = rs[r'].b) w w107 := (hK11.trans (Kp.drew _ _)).over hk107 (fun k h1 h2 => .inr (.inl (hng k h1 h2)))
        have hsp12 : (splice ((rs.map CRun.hdr).set r' (.slice (some ⟨b', 0, none⟩) (rs[r'].sl.length + 1) cap') ++ [.slice none 0 0] ++ sp2) (if cap2 = r' + 2 then 0 else 0 + (r' + 2) * 1) (((rs.map CRun.hdr).set r' (.slice (some ⟨b', 0, none⟩) (rs[r'].sl.length + 1) cap')).drop (r' + 1))).length = cap2 := by
          rw [splice_length _ _ _ (by rw [List.length_drop, hAl]; simp only [List.length_append, hAl, List.length_cons, List.length_nil]; split <;> omega)]
          simp only [List.length_append, hAl, List.length_cons, List.length_nil]; omega
        have hsl' : (rs[r'].sl.take i' ++ e :: rs[r'].sl.drop i').length = 129 := by rw [hsl, hgt]
        have hel' := encS_length hsok
        have hlw : w.heap.size ≤ w107.heap.size := hK12.size
        refine WO.nil ?_
        refine WX.thenC ?_
        refine WC.seq ?_
        refine WC.drawE [11] 6 [(0, true), (1, true), (2, true), (3, true), (4, true), (5, true), (6, true), (7, true), (8, true), (9, false), (10, true), (11, false)] mixed (by kernel_rfl) (fun hS => ?_)
        refine WO.quiet rfl (fun _ _ => ok_move rfl) hS rfl ?_
        refine WO.quiet rfl (fun _ _ => ok_nilCheck rfl) hS rfl ?_
        refine WO.quiet rfl (fun _ _ => ok_field rfl fld80_0) hS rfl ?_
        refine WO.quiet rfl (fun _ hw => ok_load rfl one45 (Kp.cell hw (hcell12) (fun f => f))) hS rfl ?_
        refine WO.quiet rfl (fun _ _ => ok_field rfl fld92_0) hS rfl ?_
        refine WO.quiet rfl (fun _ hw => ok_load rfl one3 (Kp.cell hw (h412.cell 0) (fun f => f))) hS rfl ?_
        refine WO.quiet rfl (fun _ _ => ok_move rfl) hS rfl ?_
        refine WO.quiet rfl (fun _ _ => ok_move rfl) hS rfl ?_
        refine WO.quiet rfl (fun _ _ => ok_sliceS 0 64 rfl Try.underlying49 sz54 rfl rfl (by omega) (by omega)) hS rfl ?_
        refine WO.rew 116 (.slice (some ⟨b', 0 + 0 * 23, none⟩) (64 - 0) (cap' - 0)) rfl (by rw [if_neg (by omega)]) ?_
        have hrd1 : Rd w107.drew b' (0 + 0 * 23) (encS ((rs[r'].sl.take i' ++ e :: rs[r'].sl.drop i').take 64)) := by
          have h0 : Rd w107.drew b' 0 (encS (rs[r'].sl.take i' ++ e :: rs[r'].sl.drop i')) := hRb12.drew.rd0.append_left
          rw [← List.take_append_drop 64 (rs[r'].sl.take i' ++ e :: rs[r'].sl.drop i'), encS_append] at h0
          exact h0.append_left
        refine WO.append (n := 0) (xs := []) (g := none) (v := .slice none 0 0) (m := 64 - 0) (news := encS ((rs[r'].sl.take i' ++ e :: rs[r'].sl.drop i').take 64)) rfl rfl rfl rfl elt49 (.inl ⟨rfl, rfl, rfl, rfl⟩) (by rw [encS_length (hsok.take 64), List.length_take, hsl']; rfl) hrd1 (encS_one (hsok.take 64)) (by decide) (by decide) (by decide) ?_
        intro v117 w117 g117 hS117 hK117 hg117
        have hE117 : Ext w107.drew w117 := hK117.mono (fun k _ q => by cases q)
        refine ⟨fun _ => hS.trans hE117, ?_⟩
        have hS := hS.trans hE117
        obtain ⟨b117, cap117, sp117, rfl, hB1, hB1l, hB1c, hcap117, rfl⟩ := hS117.some (by omega)
        have hb117 : b117 = w107.heap.size := hg117.elim (fun h => by cases h) (fun h => by cases h.1; rfl)
        have hg117' := ho107.lt
        refine WO.quiet rfl (fun _ _ => ok_indexS r' rfl rfl rfl (by omega) Try.underlying45 sz49) hS rfl ?_
        refine WO.store rfl rfl rfl sz49 (ho107.drew.ext hE117) (by simp [Value.cells]) (by simp only [Value.cells]; rw [hsp12]; simp; omega) (by simp [Value.cells, Value.oneCell']) ?_
        intro wr13 hor13 hkr13 hsr13
        refine ⟨(inL rfl), ?_⟩
        have hB1' := hkr13.own hB1 (by omega)
        have hRb13 := hkr13.own (hRb12.drew.ext hE117) (Ne.symm f1)
        have h413 := hkr13.own (h412.drew.ext hE117) (Ne.symm f2)
        have hO13 := hkr13.own (hO12.drew.ext hE117) (Ne.symm f3)
        have hcell13 : wr13.cell? ⟨sb, so, none⟩ = some (.slice (some ⟨g2, 0, none⟩) (rs.length + 1) cap2) := by rw [hO13.cell]; simp [hso]
        have hK13 : Kp (fun k => k = sb ∨ k = gb ∨ k = rs[r'].b) w wr13 := ((hK12.trans (Kp.drew _ _)).trans (Kp.of_ext hE117)).over hkr13 (fun k h1 h2 => .inr (.inl (hng k h1 h2)))
        have hs13 := hE117.size
        have hb117l := hB1'.lt
        have hlw13 := hK13.size
        refine WO.nil ?_
        refine WX.thenC ?_
        refine WC.drawE [12] 6 [(0, true), (1, true), (2, true), (3, true), (4, true), (5, true), (6, true), (7, true), (8, true), (9, true), (10, false), (11, true), (12, false)] mixed (by kernel_rfl) (fun hS => ?_)
        refine WO.quiet rfl (fun _ _ => ok_move rfl) hS rfl ?_
        refine WO.quiet rfl (fun _ _ => ok_nilCheck rfl) hS rfl ?_
        refine WO.quiet rfl (fun _ _ => ok_field rfl fld80_0) hS rfl ?_
        refine WO.quiet rfl (fun _ hw => ok_load rfl one45 (Kp.cell hw (hcell13) (fun f => f))) hS rfl ?_
        refine WO.quiet rfl (fun _ _ => ok_field rfl fld92_0) hS rfl ?_
        refine WO.quiet rfl (fun _ hw => ok_load rfl one3 (Kp.cell hw (h413.cell 0) (fun f => f))) hS rfl ?_
        refine WO.quiet rfl (fun _ _ => ok_add ((r' + 1 : Nat) : Int) rfl rfl (by omega) (by omega) (by omega)) hS rfl ?_
        refine WO.quiet rfl (fun _ _ => ok_move rfl) hS rfl ?_
        refine WO.quiet rfl (fun _ _ => ok_move rfl) hS rfl ?_
        refine WO.quiet rfl (fun _ _ => ok_sliceS 64 (rs[r'].sl.length + 1) rfl Try.underlying49 sz54 rfl rfl (by omega) (by omega)) hS rfl ?_
        refine WO.rew 128 (.slice (some ⟨b', 0 + 64 * 23, none⟩) (rs[r'].sl.length + 1 - 64) (cap' - 64)) rfl (by rw [if_neg (by omega)]) ?_
        have hrd2 : Rd wr13.drew b' (0 + 64 * 23) (encS ((rs[r'].sl.take i' ++ e :: rs[r'].sl.drop i').drop 64)) := by
          have h0 : Rd wr13.drew b' 0 (encS (rs[r'].sl.take i' ++ e :: rs[r'].sl.drop i')) := hRb13.drew.rd0.append_left
          rw [← List.take_append_drop 64 (rs[r'].sl.take i' ++ e :: rs[r'].sl.drop i'), encS_append] at h0
          have h1 := h0.append_right
          rw [encS_length (hsok.take 64), List.length_take, hsl'] at h1
          exact h1
        refine WO.append (n := 0) (xs := []) (g := none) (v := .slice none 0 0) (m := rs[r'].sl.length + 1 - 64) (news := encS ((rs[r'].sl.take i' ++ e :: rs[r'].sl.drop i').drop 64)) rfl rfl rfl rfl elt49 (.inl ⟨rfl, rfl, rfl, rfl⟩) (by rw [encS_length (hsok.drop 64), List.length_drop, hsl', hgt]) hrd2 (encS_one (hsok.drop 64)) (by omega) (by omega) (by omega) ?_
        intro v129 w129 g129 hS129 hK129 hg129
        have hE129 : Ext wr13.drew w129 := hK129.mono (fun k _ q => by cases q)
        refine ⟨fun _ => hS.trans hE129, ?_⟩
        have hS := hS.trans hE129
        obtain ⟨b129, cap129, sp129, rfl, hB2, hB2l, hB2c, hcap129, rfl⟩ := hS129.some (by omega)
        have hb129 : b129 = wr13.heap.size := hg129.elim (fun h => by cases h) (fun h => by cases h.1; rfl)
        have hg129' := hor13.lt
        refine WO.quiet rfl (fun _ _ => ok_indexS (r' + 1) rfl rfl rfl (by omega) Try.underlying45 sz49) hS rfl ?_
        refine WO.store rfl rfl rfl sz49 (hor13.drew.ext hE129) (by simp [Value.cells]) (by simp only [Value.cells]; rw [splice_length _ _ _ (by rw [hsp12]; simp; omega), hsp12]; simp; omega) (by simp [Value.cells, Value.oneCell']) ?_
        intro wr14 hor14 hkr14 hsr14
        refine ⟨(inL rfl), ?_⟩
        have hB1f := hkr14.own (hB1'.drew.ext hE129) (by omega)
        have hB2f := hkr14.own hB2 (by omega)
        have hOf := hkr14.own (hO13.drew.ext hE129) (Ne.symm f3)
        have hK14 : Kp (fun k => k = sb ∨ k = gb ∨ k = rs[r'].b) w wr14 := ((hK13.trans (Kp.drew _ _)).trans (Kp.of_ext hE129)).over hkr14 (fun k h1 h2 => .inr (.inl (hng k h1 h2)))
        have hrowf : Own wr14 g2 49 ((rs.map CRun.hdr).take r' ++ [.slice (some ⟨b117, 0, none⟩) (64 - 0) cap117, .slice (some ⟨b129, 0, none⟩) (rs[r'].sl.length + 1 - 64) cap129] ++ (rs.map CRun.hdr).drop (r' + 1) ++ sp2) := by
          have := hor14
          simp only [Value.cells, Nat.zero_add, Nat.mul_one] at this
          rw [split_cells _ _ _ _ _ r' _ (by rw [hAl]; exact hlt) (fun h => by rw [hAl] at h; rw [if_neg (by omega)])] at this
          rw [List.take_set_of_le (Nat.le_refl _), List.drop_set_of_lt (Nat.lt_succ_self _)] at this
          exact this
        refine WO.nil ?_
        have hsn : slots rs ≠ [] := by intro h; have := slots_length rs; rw [h] at this; simp at this; omega
        refine WX.end0 rfl ⟨_, rfl, rfl, .slice (some ⟨g2, 0, none⟩) (rs.length + 1) cap2, rs.take r' ++ [⟨b117, cap117, (rs[r'].sl.take i' ++ e :: rs[r'].sl.drop i').take 64⟩, ⟨b129, cap129, (rs[r'].sl.take i' ++ e :: rs[r'].sl.drop i').drop 64⟩] ++ rs.drop (r' + 1), some g2, hOf, ?_, ?_, hKf _ hK14, ?_⟩
        · refine asm_split hR hlt _ _ hK14 hsb rfl ?_ hcapG (RunOk.mk (hsok.take 64) hB1f ?_ ?_) (RunOk.mk (hsok.drop 64) hB2f ?_ ?_) ?_ (by show _ ≤ b117; omega) (by show _ ≤ b129; omega) (by show b117 ≠ b129; omega) (by show g2 ≠ b117; omega) (by show g2 ≠ b129; omega)
          · have h1 : ((rs[r'].sl.take i' ++ e :: rs[r'].sl.drop i').take 64).length = 64 - 0 := by rw [List.length_take, hsl']; rfl
            have h2 : ((rs[r'].sl.take i' ++ e :: rs[r'].sl.drop i').drop 64).length = rs[r'].sl.length + 1 - 64 := by rw [List.length_drop, hsl', hgt]
            simp only [CRun.hdr, h1, h2]
            exact hrowf
          · simpa using hB1c
          · rw [List.length_take, hsl']; omega
          · simpa using hB2c
          · rw [List.length_drop, hsl']; omega
          · rcases hg2 with h | h
            · exact .inl h
            · exact .inr (by omega)
        · have hsr : r' < (slots rs).length := by rw [slots_length]; exact hlt
          have hsg : (slots rs)[r'] = rs[r'].sl := by simp [slots]
          rw [insAt_ne hsn hnorm, insRun_split hsr (by rw [hsg]; exact hil) (by rw [hsg]; exact hgt), hsg]
          simp [slots]
        · intro b hb
          rcases mem_fp.1 hb with h | ⟨x, hx, rfl⟩
          · cases h
            rcases hg2 with h | h
            · exact .inl (mem_fp.2 (.inl (by rw [h])))
            · exact .inr (by omega)
          · simp only [List.mem_append, List.mem_cons, List.not_mem_nil, or_false] at hx
            rcases hx with (h | rfl | rfl) | h
            · exact .inl (mem_fp.2 (.inr ⟨x, List.mem_of_mem_take h, rfl⟩))
            · exact .inr (by show _ ≤ b117; omega)
            · exact .inr (by show _ ≤ b129; omega)
            · exact .inl (mem_fp.2 (.inr ⟨x, List.mem_of_mem_drop h, rfl⟩))

end Go.Proofs.Try
