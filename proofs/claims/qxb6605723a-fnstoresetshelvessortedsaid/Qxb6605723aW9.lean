/- Walks: the law's own sort, and the law of after. -/
import Derived.Test.Qxb6605723aSrt
set_option linter.unusedVariables false
set_option linter.unusedSimpArgs false
set_option maxRecDepth 100000
namespace Go.Sx
open Go.Pl
theorem nc_set (p : List Nat) (b v : Nat) (sp : List Value) (hb : b < p.length) : splice (nc p ++ sp) (0 + b * 1) [.int .i64 (v : Nat)] = nc (p.set b v) ++ sp := by
  rw [Nat.mul_one, Nat.zero_add, splice_set _ _ _ _ (by simpa using hb)]
  simp [nc, List.map_set]
theorem rd_ikey {w : World} {b off : Nat} {s : Itm} (h : Rd w b off s.cells) : Rd w b (off + 0) (kc s.key) := h.append_left
theorem rd_iname {w : World} {b off : Nat} {s : Itm} (h : Rd w b off s.cells) (hs : s.key.length = 20) : w.cell? ⟨b, off + 20, none⟩ = some (.string s.name) := by
  refine h.cell 20 _ ?_
  simp only [Itm.cells]
  rw [List.getElem?_append_right (by simp [hs]), kc_length, hs]
  rfl
theorem itm_one {s : Itm} : ∀ u ∈ s.cells, u.oneCell' = true := one_append (kc_one _) (one_cons rfl one_nil)
theorem srt_one (l : List Itm) (o : List Nat) : Srt ((o.take 1).map (pa l)) := by
  cases o <;> simp [Srt]
theorem rd_ekey {w : World} {b off : Nat} {s : Slot} (h : Rd w b off s.ent) : Rd w b (off + 0) (kc s.key) := h.append_left
theorem rd_ename {w : World} {b off : Nat} {s : Slot} (h : Rd w b off s.ent) (hs : s.key.length = 20) : w.cell? ⟨b, off + 20, none⟩ = some (.string s.name) := by
  refine h.cell 20 _ ?_
  simp only [Slot.ent]
  rw [List.getElem?_append_right (by simp [hs]), kc_length, hs]
  rfl
theorem rd_eval {w : World} {b off : Nat} {s : Slot} (h : Rd w b off s.ent) (hs : s.key.length = 20) : w.cell? ⟨b, off + 21, none⟩ = some s.val := by
  refine h.cell 21 _ ?_
  simp only [Slot.ent]
  rw [List.getElem?_append_right (by simp [hs]), kc_length, hs]
  rfl
theorem ent_one {s : Slot} (h : OkSl s) : ∀ u ∈ s.ent, u.oneCell' = true := one_append (kc_one _) (one_cons rfl (one_cons h.2 one_nil))
theorem flat_get (runs : List (List Slot)) (r i : Nat) (hr : r < runs.length) (hi : i < runs[r].length) : runs.flatten[sumL ((lens runs).take r) + i]? = some runs[r][i] := by
  obtain ⟨_, h⟩ := flat_at runs r i hr (by omega)
  have : runs.flatten[sumL ((lens runs).take r) + i]? = (runs.flatten.drop (sumL ((lens runs).take r) + i))[0]? := by simp
  rw [this, h, List.drop_eq_getElem_cons hi]
  rfl
end Go.Sx
namespace Go.Proofs.Try
open Go.Sx Go.Pl

set_option maxHeartbeats 1000000 in
theorem sortedDistinct (l : List Itm) (ho : OkI l) (a : Option Addr) (cap : Nat) (hn : l.length ≤ 4096) (w : World) (hI : ItemsAt w a l) :
    CallsV Try.prog 32 #[.slice a l.length cap] w fun v w' => ∃ (o : List Nat) (va : Option Addr) (cv : Nat) (g : Option Nat), v = .slice va o.length cv ∧ Slo w' (.slice va o.length cv) 3 1 o.length (nc o) g ∧ (∀ b, g = some b → w.heap.size ≤ b) ∧
      (∀ x ∈ o, x < l.length) ∧ Srt (o.map (pa l)) ∧ (o.map (pa l)).Perm (ded (l.map pk)) ∧ Ext w w' := by
  refine calls_intro (args := [_]) Try.func32 rfl Try.ntmps32 rfl ?_
  refine WC.seq ?_
  refine WC.region ?_
  refine WL.step (ok_assign rfl) rfl ?_
  refine WL.nil ?_
  refine WX.thenC ?_
  refine WC.seq ?_
  refine WC.region ?_
  refine WL.step (ok_assign rfl) rfl ?_
  refine WL.nil ?_
  refine WX.thenC ?_
  refine WC.seq ?_
  refine WC.seq ?_
  refine WC.region ?_
  refine WL.step (ok_assign rfl) rfl ?_
  refine WL.nil ?_
  refine WX.thenC ?_
  refine WC.block ?_
  refine WC.loop (fun x : Nat × Option Addr × Nat × List Nat => [(0, .slice a l.length cap), (3, .slice x.2.1 x.2.2.2.length x.2.2.1), (4, .int .i64 (x.1 : Nat))])
    (fun x w' => x.1 ≤ l.length ∧ x.2.2.2.length ≤ x.1 ∧ (∀ y ∈ x.2.2.2, y < l.length) ∧ x.2.2.2.map (pa l) ++ ded ((l.drop x.1).map pk) = ded (l.map pk) ∧ (∃ g, Slo w' (.slice x.2.1 x.2.2.2.length x.2.2.1) 3 1 x.2.2.2.length (nc x.2.2.2) g ∧ (∀ b, g = some b → w.heap.size ≤ b)) ∧ Ext w w') (fun x => l.length - x.1) (0, none, 0, []) (by repeat (first | exact trivial | refine ⟨rfl, ?_⟩)) ?_ ?_
  · exact ⟨by simp, by simp, by simp, by simp, ⟨none, .inl ⟨rfl, rfl, rfl, rfl⟩, by intro b h; cases h⟩, Kp.refl _ _⟩
  rintro ⟨j, av, cv, o⟩ w1 ⟨hjn, hol, hox, hded, ⟨g1, hS1, hg1⟩, hE1⟩
  dsimp only at hjn hol hox hded hS1 hE1
  dsimp only
  refine WC.seq ?_
  refine WC.seq ?_
  refine WC.region ?_
  refine WL.step (ok_move rfl) rfl ?_
  refine WL.step (ok_move rfl) rfl ?_
  refine WL.step (ok_lenSlice rfl Try.underlying57) rfl ?_
  refine WL.step (ok_lss rfl rfl) rfl ?_
  refine WL.nil ?_
  refine WX.thenC ?_
  refine WC.cond rfl (fun hc13 => ?_) (fun hc13 => ?_)
  ·
    have hlt : j < l.length := by have := of_decide_eq_true hc13; omega
    have hdj := ded_drop l j hlt
    refine WC.skip ?_
    refine WX.thenC ?_
    refine WC.seq ?_
    refine WC.block ?_
    refine WC.seq ?_
    refine WC.region ?_
    refine WL.step (ok_move rfl) rfl ?_
    refine WL.step (ok_move rfl) rfl ?_
    refine WL.call (ok_callF rfl isfn36) rfl (laterSamePair l ho a cap j hlt (by omega) _ (hI.ext hE1)) ?_
    rintro v w18 ⟨rfl, hE18⟩
    refine WL.step (ok_not rfl) rfl ?_
    refine WL.nil ?_
    refine WX.thenC ?_
    refine WC.cond rfl (fun hc19 => ?_) (fun hc19 => ?_)
    ·
      have hls : laterSame l j = false := by simpa using hc19
      rw [hls, if_neg (by decide)] at hdj
      refine WC.region ?_
      refine WL.step (ok_move rfl) rfl ?_
      refine WL.step (ok_move rfl) rfl ?_
      refine WL.buildSlice (size := 1) (nc [j]) elt43 (by decide) (by decide) rfl (fill_one 1 _ (.int .i64 ((j : Nat) : Int)) (by simp) rfl) rfl ?_
      intro b22 w22 hb22 ho22 hk22 hs22
      refine WL.append (c := 1) (b := b22) (off := 0) (m := 1) (news := nc [j]) (n := o.length) (xs := nc o) (v := .slice av o.length cv) (g := g1) rfl rfl rfl elt43 ((hS1.kp hE18 (fun _ _ f => f)).kp hk22 (fun _ _ f => f)) rfl ho22.rd0 (nc_one _) (by decide) (by omega) (by omega) ?_
      intro v23 w23 g23 hS23 hK23 hg23
      have hS23' := hS23
      obtain ⟨b', cap', sp', rfl, hB, hBl, hBc, hcap1, rfl⟩ := hS23.some (by omega)
      have hgn : ∀ b, some b' = some b → w.heap.size ≤ b := by
        intro b hb
        cases hb
        rcases hg23 with h | ⟨h, _⟩
        · exact hg1 b' h.symm
        · cases h; exact Nat.le_trans hE1.size (Nat.le_trans hE18.size hk22.size)
      refine WL.rew 23 (.slice (some ⟨b', 0, none⟩) (o ++ [j]).length cap') rfl (by simp) ?_
      refine WL.step (ok_assign rfl) rfl ?_
      refine WL.nil ?_
      refine WX.blockN ?_
      refine WX.thenC ?_
      refine WC.region ?_
      refine WL.step (ok_move rfl) rfl ?_
      refine WL.step (ok_add ((j + 1 : Nat) : Int) rfl rfl (by omega) (by omega) (by omega)) rfl ?_
      refine WL.step (ok_assign rfl) rfl ?_
      refine WL.nil ?_
      exact WX.again (j + 1, some ⟨b', 0, none⟩, cap', o ++ [j]) (by repeat (first | exact trivial | refine ⟨rfl, ?_⟩)) ⟨by show j + 1 ≤ _; omega, by show (o ++ [j]).length ≤ j + 1; simp; omega, by intro y hy; rcases List.mem_append.1 hy with h | h; exact hox y h; simp at h; omega, by rw [← hded, hdj]; simp [pa_eq l j hlt], ⟨_, sloNext hS23' rfl rfl, hgn⟩, ((hE1.trans hE18).trans hk22).over hK23 (fun k h1 h2 => by have := hg1 k h2; omega)⟩ (by show _ - (j + 1) < _ - j; omega)
    ·
      have hls : laterSame l j = true := by simpa using hc19
      rw [hls, if_pos rfl] at hdj
      refine WC.skip ?_
      refine WX.blockN ?_
      refine WX.thenC ?_
      refine WC.region ?_
      refine WL.step (ok_move rfl) rfl ?_
      refine WL.step (ok_add ((j + 1 : Nat) : Int) rfl rfl (by omega) (by omega) (by omega)) rfl ?_
      refine WL.step (ok_assign rfl) rfl ?_
      refine WL.nil ?_
      exact WX.again (j + 1, av, cv, o) (by repeat (first | exact trivial | refine ⟨rfl, ?_⟩)) ⟨by show j + 1 ≤ _; omega, by show o.length ≤ j + 1; omega, hox, by rw [← hded, hdj], ⟨g1, hS1.kp hE18 (fun _ _ f => f), hg1⟩, hE1.trans hE18⟩ (by show _ - (j + 1) < _ - j; omega)
  ·
    have hge : j = l.length := by have := of_decide_eq_false hc13; omega
    have hod : o.map (pa l) = ded (l.map pk) := by rw [hge, List.drop_length] at hded; simpa [ded] using hded
    refine WC.exit ?_
    refine WX.thenE ?_
    refine WX.thenE ?_
    refine WX.blockHit ?_
    refine WX.thenC ?_
    refine WC.seq ?_
    refine WC.seq ?_
    refine WC.region ?_
    refine WL.step (ok_assign rfl) rfl ?_
    refine WL.nil ?_
    refine WX.thenC ?_
    refine WC.block ?_
    refine WC.loop (fun x : Nat × List Nat => [(0, .slice a l.length cap), (3, .slice av o.length cv), (5, .int .i64 (x.1 : Nat))])
      (fun x w' => 1 ≤ x.1 ∧ x.2.Perm o ∧ Srt ((x.2.take x.1).map (pa l)) ∧ Slo w' (.slice av o.length cv) 3 1 o.length (nc x.2) g1 ∧ Ext w w') (fun x => o.length - x.1) (1, o) (by repeat (first | exact trivial | refine ⟨rfl, ?_⟩)) ?_ ?_
    · exact ⟨Nat.le_refl _, List.Perm.refl _, srt_one l o, hS1, hE1⟩
    rintro ⟨aa, p⟩ w2 ⟨haa, hpp, hsrt, hS2, hE2⟩
    dsimp only at haa hpp hsrt hS2 hE2
    dsimp only
    have hlp : p.length = o.length := hpp.length_eq
    have hkD : ∀ q : List Nat, q.Perm o → ∀ x ∈ q.map (pa l), K20 x := by
      intro q hq x hx
      obtain ⟨y, hy, rfl⟩ := List.mem_map.1 hx
      have hyl := hox y (hq.mem_iff.1 hy)
      rw [pa_eq l y hyl]
      exact ho _ (List.getElem_mem hyl)
    have hnD : ∀ q : List Nat, q.Perm o → (q.map (pa l)).Nodup := fun q hq => ((hq.map (pa l)).nodup_iff).2 (by rw [hod]; exact ded_nodup _)
    refine WC.seq ?_
    refine WC.seq ?_
    refine WC.region ?_
    refine WL.step (ok_move rfl) rfl ?_
    refine WL.step (ok_move rfl) rfl ?_
    refine WL.step (ok_lenSlice rfl Try.underlying43) rfl ?_
    refine WL.step (ok_lss rfl rfl) rfl ?_
    refine WL.nil ?_
    refine WX.thenC ?_
    refine WC.cond rfl (fun hc27 => ?_) (fun hc27 => ?_)
    ·
      have haN : aa < o.length := by have := of_decide_eq_true hc27; omega
      obtain ⟨ob, ocap, osp, heqo, hOo, hol1, hoc, hocc, hgo⟩ := hS2.some (by omega)
      cases heqo
      refine WC.skip ?_
      refine WX.thenC ?_
      refine WC.seq ?_
      refine WC.block ?_
      refine WC.seq ?_
      refine WC.region ?_
      refine WL.step (ok_move rfl) rfl ?_
      refine WL.step (ok_assign rfl) rfl ?_
      refine WL.nil ?_
      refine WX.thenC ?_
      refine WC.block ?_
      refine WC.loop (fun x : Nat × List Nat => [(0, .slice a l.length cap), (3, .slice (some ⟨ob, 0, none⟩) o.length cv), (5, .int .i64 (aa : Nat)), (6, .int .i64 (x.1 : Nat))])
        (fun x w' => x.1 ≤ aa ∧ x.2.Perm o ∧ InsB l x.2 aa x.1 ∧ Own w' ob 3 (nc x.2 ++ osp) ∧ Ext w w') (fun x => x.1) (aa, p) (by repeat (first | exact trivial | refine ⟨rfl, ?_⟩)) ?_ ?_
      · exact ⟨Nat.le_refl _, hpp, insB_start (show aa < p.length by omega) hsrt, hOo, hE2⟩
      rintro ⟨b, p2⟩ w3 ⟨hba, hpp2, hIB, hOb, hE3⟩
      dsimp only at hba hpp2 hIB hOb hE3
      dsimp only
      refine WC.seq ?_
      refine WC.seq ?_
      refine WC.region ?_
      refine WL.step (ok_move rfl) rfl ?_
      refine WL.step (ok_gtr rfl rfl) rfl ?_
      refine WL.nil ?_
      refine WX.thenC ?_
      refine WC.cond rfl (fun hc32 => ?_) (fun hc32 => ?_)
      ·
        have hb0 : 0 < b := by have := of_decide_eq_true hc32; omega
        have hlp2 : p2.length = o.length := hpp2.length_eq
        have hbl : b < p2.length := by omega
        have hx2 : ∀ x ∈ p2, x < l.length := fun x hx => hox x (hpp2.mem_iff.1 hx)
        obtain ⟨xb, hxb⟩ : ∃ x, x = p2[b] := ⟨_, rfl⟩
        obtain ⟨xb1, hxb1⟩ : ∃ x, x = p2[b - 1] := ⟨_, rfl⟩
        have hv1 : xb < l.length := by rw [hxb]; exact hx2 _ (List.getElem_mem _)
        have hv2 : xb1 < l.length := by rw [hxb1]; exact hx2 _ (List.getElem_mem _)
        have hc1 : w3.cell? ⟨ob, 0 + b * 1, none⟩ = some (.int .i64 (xb : Nat)) := by rw [hxb]; exact rd_nat hOb.rd0.append_left b hbl
        have hc2 : w3.cell? ⟨ob, 0 + (b - 1) * 1, none⟩ = some (.int .i64 (xb1 : Nat)) := by rw [hxb1]; exact rd_nat hOb.rd0.append_left (b - 1) (by omega)
        obtain ⟨ib, ioff, rfl, hr⟩ := (hI.ext hE3).at hv1
        refine WC.skip ?_
        refine WX.thenC ?_
        refine WC.seq ?_
        refine WC.block ?_
        refine WC.seq ?_
        refine WC.region ?_
        refine WL.step (ok_move rfl) rfl ?_
        refine WL.step (ok_move rfl) rfl ?_
        refine WL.step (ok_move rfl) rfl ?_
        refine WL.step (ok_indexS _ rfl rfl rfl (by omega) Try.underlying43 sz3) rfl ?_
        refine WL.step (ok_load rfl one3 (hc1)) rfl ?_
        refine WL.step (ok_indexS xb rfl rfl rfl (by omega) Try.underlying57 sz64) rfl ?_
        refine WL.step (ok_loadN rfl agg64 sz64 (Itm.len ho _ (List.getElem_mem hv1)) (Rd.elem hr (Itm.len ho) xb hv1)) rfl ?_
        refine WL.alloc zero64 rfl ?_
        intro b7 w7 hb7 ho7 hk7 hs7
        refine WL.store rfl rfl sz64 (ho7) (by simpa [Value.cells] using Itm.len ho _ (List.getElem_mem hv1)) (by simp [Value.cells, Itm.len ho _ (List.getElem_mem hv1)]) itm_one ?_
        intro wr13 hor13 hkr13 hsr13
        have h7 : Own wr13 b7 64 l[xb].cells := by
          have := hor13
          simp only [Value.cells] at this
          rw [splice_all _ _ (by simp [Itm.len ho _ (List.getElem_mem hv1)])] at this
          exact this
        have hE13 : Ext w3 wr13 := hk7.over hkr13 (fun i hi e => by omega)
        have hOb13 := hOb.ext hE13
        have hr13 := hr.kp hE13 (fun f => f)
        refine WL.nil ?_
        refine WX.thenC ?_
        refine WC.seq ?_
        refine WC.region ?_
        refine WL.step (ok_move rfl) rfl ?_
        refine WL.step (ok_move rfl) rfl ?_
        refine WL.step (ok_move rfl) rfl ?_
        refine WL.step (ok_sub ((b - 1 : Nat) : Int) rfl rfl (by omega) (by omega) (by omega)) rfl ?_
        refine WL.step (ok_indexS (b - 1) rfl rfl rfl (by omega) Try.underlying43 sz3) rfl ?_
        refine WL.step (ok_load rfl one3 ((Kp.cell hE13 hc2 (fun f => f)))) rfl ?_
        refine WL.step (ok_indexS xb1 rfl rfl rfl (by omega) Try.underlying57 sz64) rfl ?_
        refine WL.step (ok_loadN rfl agg64 sz64 (Itm.len ho _ (List.getElem_mem hv2)) (Rd.elem hr13 (Itm.len ho) xb1 hv2)) rfl ?_
        refine WL.alloc zero64 rfl ?_
        intro b8 w8 hb8 ho8 hk8 hs8
        refine WL.store rfl rfl sz64 (ho8) (by simpa [Value.cells] using Itm.len ho _ (List.getElem_mem hv2)) (by simp [Value.cells, Itm.len ho _ (List.getElem_mem hv2)]) itm_one ?_
        intro wr14 hor14 hkr14 hsr14
        have h8 : Own wr14 b8 64 l[xb1].cells := by
          have := hor14
          simp only [Value.cells] at this
          rw [splice_all _ _ (by simp [Itm.len ho _ (List.getElem_mem hv2)])] at this
          exact this
        have hE14 : Ext wr13 wr14 := hk8.over hkr14 (fun i hi e => by omega)
        have h7b := h7.ext hE14
        refine WL.nil ?_
        refine WX.thenC ?_
        refine WC.seq ?_
        refine WC.seq ?_
        refine WC.region ?_
        refine WL.step (ok_field rfl fld64_0) rfl ?_
        refine WL.step (ok_loadN rfl agg29 sz29 (by simp [ho _ (List.getElem_mem hv1)]) (rd_ikey h7b.rd0)) rfl ?_
        refine WL.step (ok_field rfl fld64_1) rfl ?_
        refine WL.step (ok_load rfl one9 (rd_iname h7b.rd0 (ho _ (List.getElem_mem hv1)))) rfl ?_
        refine WL.step (ok_field rfl fld64_0) rfl ?_
        refine WL.step (ok_loadN rfl agg29 sz29 (by simp [ho _ (List.getElem_mem hv2)]) (rd_ikey h8.rd0)) rfl ?_
        refine WL.step (ok_field rfl fld64_1) rfl ?_
        refine WL.step (ok_load rfl one9 (rd_iname h8.rd0 (ho _ (List.getElem_mem hv2)))) rfl ?_
        refine WL.call (ok_callF rfl isfn20) rfl (lessPair l[xb].key l[xb1].key l[xb].name l[xb1].name (ho _ (List.getElem_mem hv1)) (ho _ (List.getElem_mem hv2)) _) ?_
        rintro v w58 ⟨rfl, hE58⟩
        have hE358 : Ext w3 w58 := (hE13.trans hE14).trans hE58
        have hO58 := hOb.ext hE358
        have hfo : lt2 (fo l p2 b) (fo l p2 (b - 1)) = ltP l[xb].key l[xb].name.toList l[xb1].key l[xb1].name.toList := by
          rw [fo_eq l p2 b hbl, fo_eq l p2 (b - 1) (by omega)]
          simp only [List.getElem_map, ← hxb, ← hxb1, pa_eq l xb hv1, pa_eq l xb1 hv2]
          rfl
        refine WL.step (ok_not rfl) rfl ?_
        refine WL.nil ?_
        refine WX.thenC ?_
        refine WC.cond rfl (fun hc59 => ?_) (fun hc59 => ?_)
        ·
          have hnl : lt2 (fo l p2 b) (fo l p2 (b - 1)) = false := by rw [hfo]; simpa using hc59
          refine WC.exit ?_
          refine WX.thenE ?_
          refine WX.blockMiss rfl ?_
          refine WX.thenE ?_
          refine WX.thenE ?_
          refine WX.blockHit ?_
          refine WX.blockN ?_
          refine WX.thenC ?_
          refine WC.region ?_
          refine WL.step (ok_move rfl) rfl ?_
          refine WL.step (ok_add ((aa + 1 : Nat) : Int) rfl rfl (by omega) (by omega) (by omega)) rfl ?_
          refine WL.step (ok_assign rfl) rfl ?_
          refine WL.nil ?_
          exact WX.again (aa + 1, p2) (by repeat (first | exact trivial | refine ⟨rfl, ?_⟩)) ⟨by show 1 ≤ aa + 1; omega, hpp2, insB_end (show aa < p2.length by omega) hba (hkD p2 hpp2) (hnD p2 hpp2) hIB (.inr hnl), .inr ⟨ob, cv, osp, rfl, hO58, by simp [hlp2], by simp [hlp2]; simp at hoc; omega, hocc, hgo⟩, hE3.trans hE358⟩ (by show _ - (aa + 1) < _ - aa; omega)
        ·
          have hnl : lt2 (fo l p2 b) (fo l p2 (b - 1)) = true := by rw [hfo]; simpa using hc59
          refine WC.skip ?_
          refine WX.thenC ?_
          refine WC.seq ?_
          refine WC.region ?_
          refine WL.step (ok_move rfl) rfl ?_
          refine WL.step (ok_move rfl) rfl ?_
          refine WL.step (ok_indexS _ rfl rfl rfl (by omega) Try.underlying43 sz3) rfl ?_
          refine WL.step (ok_load rfl one3 ((Kp.cell hE358 hc1 (fun f => f)))) rfl ?_
          refine WL.step (ok_assign rfl) rfl ?_
          refine WL.nil ?_
          refine WX.thenC ?_
          refine WC.seq ?_
          refine WC.region ?_
          refine WL.step (ok_move rfl) rfl ?_
          refine WL.step (ok_move rfl) rfl ?_
          refine WL.step (ok_move rfl) rfl ?_
          refine WL.step (ok_move rfl) rfl ?_
          refine WL.step (ok_sub ((b - 1 : Nat) : Int) rfl rfl (by omega) (by omega) (by omega)) rfl ?_
          refine WL.step (ok_indexS (b - 1) rfl rfl rfl (by omega) Try.underlying43 sz3) rfl ?_
          refine WL.step (ok_load rfl one3 ((Kp.cell hE358 hc2 (fun f => f)))) rfl ?_
          refine WL.step (ok_indexS b rfl rfl rfl (by omega) Try.underlying43 sz3) rfl ?_
          refine WL.store rfl rfl sz3 (hO58) (by simp [Value.cells]) (by simp [Value.cells]; omega) (by simp [Value.cells, Value.oneCell']) ?_
          intro wr17 hor17 hkr17 hsr17
          have h17 : Own wr17 ob 3 (nc (p2.set b xb1) ++ osp) := by
            have := hor17
            simp only [Value.cells] at this
            rw [← nc_set p2 b xb1 osp hbl]
            exact this
          refine WL.nil ?_
          refine WX.thenC ?_
          refine WC.region ?_
          refine WL.step (ok_move rfl) rfl ?_
          refine WL.step (ok_move rfl) rfl ?_
          refine WL.step (ok_sub ((b - 1 : Nat) : Int) rfl rfl (by omega) (by omega) (by omega)) rfl ?_
          refine WL.step (ok_move rfl) rfl ?_
          refine WL.step (ok_indexS (b - 1) rfl rfl rfl (by omega) Try.underlying43 sz3) rfl ?_
          refine WL.store rfl rfl sz3 (h17) (by simp [Value.cells]) (by simp [Value.cells]; omega) (by simp [Value.cells, Value.oneCell']) ?_
          intro wr18 hor18 hkr18 hsr18
          have h18 : Own wr18 ob 3 (nc (swp p2 b) ++ osp) := by
            have h0 := hor18
            simp only [Value.cells] at h0
            have h1 : p2.getD (b - 1) 0 = xb1 := by simp [List.getD, show b - 1 < p2.length by omega, hxb1]
            have h2 : p2.getD b 0 = xb := by simp [List.getD, hbl, hxb]
            unfold swp
            rw [h1, h2, ← nc_set (p2.set b xb1) (b - 1) xb osp (by simp; omega)]
            exact h0
          have hobl : w.heap.size ≤ ob := hg1 ob hgo
          have hE318 : Ext w wr18 := ((hE3.trans hE358).over hkr17 (fun i hi e => by omega)).over hkr18 (fun i hi e => by omega)
          refine WL.nil ?_
          refine WX.blockN ?_
          refine WX.thenC ?_
          refine WC.region ?_
          refine WL.step (ok_move rfl) rfl ?_
          refine WL.step (ok_sub ((b - 1 : Nat) : Int) rfl rfl (by omega) (by omega) (by omega)) rfl ?_
          refine WL.step (ok_assign rfl) rfl ?_
          refine WL.nil ?_
          exact WX.again (b - 1, swp p2 b) (by repeat (first | exact trivial | refine ⟨rfl, ?_⟩)) ⟨by show b - 1 ≤ aa; omega, (swp_perm p2 b hbl).trans hpp2, insB_step (by omega) hb0 hba hIB hnl, h18, hE318⟩ (by show b - 1 < b; omega)
      ·
        have hlp2 : p2.length = o.length := hpp2.length_eq
        have hbl : b < p2.length := by omega
        have hx2 : ∀ x ∈ p2, x < l.length := fun x hx => hox x (hpp2.mem_iff.1 hx)
        have hb0 : b = 0 := by have := of_decide_eq_false hc32; omega
        refine WC.exit ?_
        refine WX.thenE ?_
        refine WX.thenE ?_
        refine WX.blockHit ?_
        refine WX.blockN ?_
        refine WX.thenC ?_
        refine WC.region ?_
        refine WL.step (ok_move rfl) rfl ?_
        refine WL.step (ok_add ((aa + 1 : Nat) : Int) rfl rfl (by omega) (by omega) (by omega)) rfl ?_
        refine WL.step (ok_assign rfl) rfl ?_
        refine WL.nil ?_
        exact WX.again (aa + 1, p2) (by repeat (first | exact trivial | refine ⟨rfl, ?_⟩)) ⟨by show 1 ≤ aa + 1; omega, hpp2, insB_end (show aa < p2.length by omega) hba (hkD p2 hpp2) (hnD p2 hpp2) hIB (.inl hb0), .inr ⟨ob, cv, osp, rfl, hOb, by simp [hlp2], by simp [hlp2]; simp at hoc; omega, hocc, hgo⟩, hE3⟩ (by show _ - (aa + 1) < _ - aa; omega)
    ·
      have haN : o.length ≤ aa := by have := of_decide_eq_false hc27; omega
      refine WC.exit ?_
      refine WX.thenE ?_
      refine WX.thenE ?_
      refine WX.blockHit ?_
      refine WX.thenC ?_
      refine WC.seq ?_
      refine WC.region ?_
      refine WL.step (ok_move rfl) rfl ?_
      refine WL.step (ok_assign rfl) rfl ?_
      refine WL.nil ?_
      refine WX.thenC ?_
      refine WC.ret ?_
      exact WX.ret1 rfl rfl ⟨_, rfl, p, av, cv, g1, by rw [hlp], by rw [hlp]; exact hS2, hg1, fun x hx => hox x (hpp.mem_iff.1 hx), by rw [List.take_of_length_le (by omega)] at hsrt; exact hsrt, by rw [← hod]; exact hpp.map _, hE2⟩

end Go.Proofs.Try
