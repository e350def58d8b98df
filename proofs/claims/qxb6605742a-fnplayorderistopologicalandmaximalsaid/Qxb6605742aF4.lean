/- Walks: the exported order of play; the law of the free steps. -/
import Derived.Test.Qxb6605742aW2
set_option linter.unusedVariables false
set_option linter.unusedSimpArgs false
set_option maxRecDepth 100000
namespace Go.Sx
open Go.Po
theorem same_cites {l0 l : List Stp} (hll : l.length = l0.length) (hs : ∀ i (h : i < l0.length) (h' : i < l.length), SameT l0[i] l[i]) : cites l = cites l0 := by
  unfold cites
  congr 1
  refine List.ext_getElem (by simp [hll]) fun i h1 h2 => ?_
  simp only [List.getElem_map]
  simp at h1 h2
  rw [(hs i h2 h1).2.2.2]
theorem same_in {l0 l : List Stp} (hll : l.length = l0.length) (hs : ∀ i (h : i < l0.length) (h' : i < l.length), SameT l0[i] l[i]) (hin : ∀ s ∈ l0, ∀ j ∈ s.js, j < l0.length) : ∀ s ∈ l, ∀ j ∈ s.js, j < l.length := by
  intro s hm j hj
  obtain ⟨i, hi, rfl⟩ := List.mem_iff_getElem.1 hm
  have h := hs i (by omega) hi
  rw [hll]
  refine hin l0[i] (List.getElem_mem _) j ?_
  unfold Stp.js at hj ⊢
  rw [← h.2.1, ← h.2.2.1, ← h.2.2.2]; exact hj
theorem roots_pre (lk : Lk) (i : Nat) : ∀ n, i ≤ n → ∃ t, roots lk n = roots lk i ++ t
  | 0, h => ⟨[], by have : i = 0 := by omega
                    subst this; simp⟩
  | n + 1, h => by
    by_cases e : i = n + 1
    · subst e; exact ⟨[], by simp⟩
    · obtain ⟨t, ht⟩ := roots_pre lk i n (by omega)
      rw [roots_succ]
      split
      · exact ⟨t ++ [n], by rw [ht, List.append_assoc]⟩
      · exact ⟨t, ht⟩
theorem root_at {lk : Lk} {n : Nat} {o : List Nat} (h : Played lk n o) {i : Nat} (hi : i < n) (hr : lkOf lk i = []) : o[(roots lk i).length]? = some i := by
  obtain ⟨rest, ho, _⟩ := h.rts
  obtain ⟨t, ht⟩ := roots_pre lk (i + 1) n hi
  rw [roots_succ, if_pos (by rw [List.isEmpty_iff, hr])] at ht
  rw [ho, ht, List.append_assoc, List.append_assoc, List.getElem?_append_right (Nat.le_refl _)]
  simp
theorem root_not {lk : Lk} {n : Nat} {o : List Nat} (h : Played lk n o) {k i : Nat} (hk : (roots lk n).length ≤ k) (hi : o[k]? = some i) : lkOf lk i ≠ [] := by
  obtain ⟨rest, ho, hr⟩ := h.rts
  rw [ho, List.getElem?_append_right hk] at hi
  exact hr i (List.mem_of_getElem? hi)
theorem root_iff (l : List Stp) (i : Nat) (hi : i < l.length) : (∀ z ∈ l[i].js, z < 0) ↔ lkOf (lkL l) i = [] := by
  rw [lkOf_lkL l i hi, lks_nil]
end Go.Sx
namespace Go.Proofs.Try
open Go.Sx Go.Po
section
variable {s : Store} {x y u v : Operand} {ty : TypeId} {w : World}
theorem build46 {k p d : Int} {a : Option Addr} {len cap : Nat} (hx : ev s x = some (.int .i64 k)) (hy : ev s y = some (.int .i64 p)) (hu : ev s u = some (.int .i64 d)) (hv : ev s v = some (.slice a len cap)) :
    OpOk Try.prog s (.build 46 #[(0, x), (1, y), (2, u), (3, v)]) ty w (.agg [Value.int .i64 k, .int .i64 p, .int .i64 d, .slice a len cap].toArray) w := by
  refine ok_build (vs := [.int .i64 k, .int .i64 p, .int .i64 d, .slice a len cap]) zero46 flds46 (by simp [evs, hx, hy, hu, hv]) ?_
  simp [fillL, splice, Value.cells]
end

set_option maxHeartbeats 1000000 in
theorem zzPlay (l : List Stp) (hn : l.length ≤ 65536) (hc : 48 * l.length + 8 * cites l ≤ 1048576) (hin : ∀ s ∈ l, ∀ j ∈ s.js, j < l.length) (bk bp bs bc : Nat) (w : World)
    (hbk : Rd w bk 0 (ic (l.map Stp.kind))) (hbp : Rd w bp 0 (ic (l.map Stp.prev))) (hbs : Rd w bs 0 (ic (l.map Stp.send))) (hbc : Rd w bc 0 (l.map hdrT)) (hv : ∀ s ∈ l, IntsAt w s.ca s.cl) :
    CallsV Try.prog 13 #[.slice (some ⟨bk, 0, none⟩) l.length l.length, .slice (some ⟨bp, 0, none⟩) l.length l.length, .slice (some ⟨bs, 0, none⟩) l.length l.length, .slice (some ⟨bc, 0, none⟩) l.length l.length] w fun v w' =>
      ∃ (o : List Nat) (va : Option Addr) (cv : Nat), v = .slice va o.length cv ∧ (o ≠ [] → ∃ b, va = some ⟨b, 0, none⟩ ∧ Rd w' b 0 (nc o)) ∧ Played (lkL l) l.length o ∧ Ext w w' := by
  refine calls_intro (args := [_, _, _, _]) Try.func13 rfl Try.ntmps13 rfl ?_
  refine WC.seq ?_
  refine WC.region ?_
  refine WL.step (ok_assign rfl) rfl ?_
  refine WL.nil ?_
  refine WX.thenC ?_
  refine WC.seq ?_
  refine WC.region ?_
  refine WL.step (ok_move rfl) rfl ?_
  refine WL.step (ok_lenSlice rfl Try.underlying25) rfl ?_
  refine WL.make (l.length) elt43 rfl (by omega) (by omega) rfl ?_
  intro b13 w13 c13 hb13 ho13 hl13 hz13 hk13 hs13
  refine WL.step (ok_assign rfl) rfl ?_
  refine WL.nil ?_
  refine WX.thenC ?_
  refine WC.seq ?_
  refine WC.seq ?_
  refine WC.region ?_
  refine WL.step (ok_move rfl) rfl ?_
  refine WL.step (ok_lenSlice rfl Try.underlying43) rfl ?_
  refine WL.step (ok_move rfl) rfl ?_
  refine WL.nil ?_
  refine WX.thenC ?_
  refine WC.block ?_
  refine WC.loop (fun k : Nat => [(0, .slice (some ⟨bk, 0, none⟩) l.length l.length), (1, .slice (some ⟨bp, 0, none⟩) l.length l.length), (2, .slice (some ⟨bs, 0, none⟩) l.length l.length), (3, .slice (some ⟨bc, 0, none⟩) l.length l.length), (9, .slice (some ⟨b13, 0, none⟩) l.length l.length), (15, .int .i64 (l.length : Nat)), (16, .int .i64 (k : Nat))])
    (fun k w' => k ≤ l.length ∧ Ext w w' ∧ ∃ rest, Own w' b13 46 (encT (l.take k) ++ rest) ∧ rest.length = (l.length - k) * 4) (fun k => l.length - k) 0 (by repeat (first | exact trivial | refine ⟨rfl, ?_⟩)) ?_ ?_
  · exact ⟨by omega, hk13, c13, by simpa [encT] using ho13, by simpa using hl13⟩
  rintro k w1 ⟨hkn, hE, rest, hO, hrest⟩
  refine WC.seq ?_
  refine WC.region ?_
  refine WL.step (ok_lss rfl rfl) rfl ?_
  refine WL.nil ?_
  refine WX.thenC ?_
  refine WC.seq ?_
  refine WC.cond rfl (fun hc17 => ?_) (fun hc17 => ?_)
  ·
    have hlt : k < l.length := by have := of_decide_eq_true hc17; omega
    refine WC.skip ?_
    refine WX.thenC ?_
    refine WC.seq ?_
    refine WC.block ?_
    refine WC.seq ?_
    refine WC.region ?_
    refine WL.step (ok_move rfl) rfl ?_
    refine WL.step (ok_assign rfl) rfl ?_
    refine WL.nil ?_
    refine WX.thenC ?_
    refine WC.drawE [20] 6 [(0, true), (1, true), (2, true), (3, true), (4, true), (5, true), (6, true), (7, true), (8, true), (9, true), (10, true), (11, true), (12, true), (13, true), (14, true), (15, true), (16, true), (17, true), (18, true), (19, true), (20, false)] mixed (by kernel_rfl) (fun hS => ?_)
    refine WO.quiet rfl (fun _ _ => ok_move rfl) hS rfl ?_
    refine WO.quiet rfl (fun _ _ => ok_move rfl) hS rfl ?_
    refine WO.quiet rfl (fun _ _ => ok_move rfl) hS rfl ?_
    refine WO.quiet rfl (fun _ _ => ok_move rfl) hS rfl ?_
    refine WO.quiet rfl (fun _ _ => ok_indexS k rfl rfl rfl (by omega) Try.underlying25 sz3) hS rfl ?_
    refine WO.quiet rfl (fun _ hw => ok_load rfl one3 (Kp.cell hw (rd_fld (hbk.kp hE (fun f => f)) hlt) (fun f => f))) hS rfl ?_
    refine WO.quiet rfl (fun _ _ => ok_move rfl) hS rfl ?_
    refine WO.quiet rfl (fun _ _ => ok_move rfl) hS rfl ?_
    refine WO.quiet rfl (fun _ _ => ok_indexS k rfl rfl rfl (by omega) Try.underlying25 sz3) hS rfl ?_
    refine WO.quiet rfl (fun _ hw => ok_load rfl one3 (Kp.cell hw (rd_fld (hbp.kp hE (fun f => f)) hlt) (fun f => f))) hS rfl ?_
    refine WO.quiet rfl (fun _ _ => ok_move rfl) hS rfl ?_
    refine WO.quiet rfl (fun _ _ => ok_move rfl) hS rfl ?_
    refine WO.quiet rfl (fun _ _ => ok_indexS k rfl rfl rfl (by omega) Try.underlying25 sz3) hS rfl ?_
    refine WO.quiet rfl (fun _ hw => ok_load rfl one3 (Kp.cell hw (rd_fld (hbs.kp hE (fun f => f)) hlt) (fun f => f))) hS rfl ?_
    refine WO.quiet rfl (fun _ _ => ok_move rfl) hS rfl ?_
    refine WO.quiet rfl (fun _ _ => ok_move rfl) hS rfl ?_
    refine WO.quiet rfl (fun _ _ => ok_indexS k rfl rfl rfl (by omega) Try.underlying26 sz25) hS rfl ?_
    refine WO.quiet rfl (fun _ hw => ok_load rfl one25 (Kp.cell hw (rd_hdT (hbc.kp hE (fun f => f)) hlt) (fun f => f))) hS rfl ?_
    refine WO.quiet rfl (fun _ _ => build46 rfl rfl rfl rfl) hS rfl ?_
    refine WO.quiet rfl (fun _ _ => ok_indexS k rfl rfl rfl (by omega) Try.underlying43 sz46) hS rfl ?_
    refine WO.store rfl rfl rfl sz46 (hO.drew) rfl (by simp [Value.cells, encT_length]; omega) (one_cons rfl (one_cons rfl (one_cons rfl (one_cons rfl one_nil)))) ?_
    intro wr5 hor5 hkr5 hsr5
    refine ⟨(inL rfl), ?_⟩
    have h5 : Own wr5 b13 46 (encT (l.take (k + 1)) ++ rest.drop 4) := by
      have h0 := (show Own wr5 b13 46 (splice (encT (l.take k) ++ rest) (0 + k * 4) l[k].cells) from hor5)
      rw [splice_mid _ _ _ _ (by rw [encT_length, List.length_take]; omega)] at h0
      have e : encT (l.take (k + 1)) = encT (l.take k) ++ l[k].cells := flatMap_take_succ _ l k hlt
      rw [e]; exact h0
    have hE5 : Ext w wr5 := (hE.trans (Kp.drew _ _)).over hkr5 (fun i hi e => by omega)
    refine WO.nil ?_
    refine WX.blockN ?_
    refine WX.thenC ?_
    refine WC.region ?_
    refine WL.step (ok_add ((k + 1 : Nat) : Int) rfl rfl (by omega) (by omega) (by omega)) rfl ?_
    refine WL.step (ok_move rfl) rfl ?_
    refine WL.nil ?_
    exact WX.again (k + 1) (by repeat (first | exact trivial | refine ⟨rfl, ?_⟩)) ⟨by omega, hE5, rest.drop 4, h5, by rw [List.length_drop, hrest]; omega⟩ (by omega)
  ·
    have hge : k = l.length := by have := of_decide_eq_false hc17; omega
    have hRl : Rd w1 b13 0 (encT l) := by rw [hge, List.take_length] at hO; exact hO.rd0.append_left
    refine WC.exit ?_
    refine WX.thenE ?_
    refine WX.thenE ?_
    refine WX.blockHit ?_
    refine WX.thenC ?_
    refine WC.seq ?_
    refine WC.region ?_
    refine WL.step (ok_move rfl) rfl ?_
    refine WL.call (ok_callF rfl isfn29) rfl (playOrder l (some ⟨b13, 0, none⟩) l.length hn hc hin _ ⟨fun _ => ⟨b13, 0, rfl, hRl⟩, fun s hs => (hv s hs).ext hE⟩) ?_
    rintro v w41 ⟨o, va, cv, rfl, hO41, hPl, hE41⟩
    refine WL.step (ok_assign rfl) rfl ?_
    refine WL.nil ?_
    refine WX.thenC ?_
    refine WC.ret ?_
    exact WX.ret1 rfl rfl ⟨_, rfl, o, va, cv, rfl, hO41, hPl, hE.trans hE41⟩
set_option maxHeartbeats 2000000 in
theorem lawFree (l0 : List Stp) (a : Option Addr) (cap : Nat) (w : World) (hI : StpsAt w a l0) :
    CallsV Try.prog 4 #[.slice a l0.length cap] w fun v w' => v = .bool true ∧ Ext w w' := by
  refine calls_intro (args := [_]) Try.func4 rfl Try.ntmps4 rfl ?_
  refine WC.seq ?_
  refine WC.region ?_
  refine WL.step (ok_assign rfl) rfl ?_
  refine WL.nil ?_
  refine WX.thenC ?_
  refine WC.seq ?_
  refine WC.seq ?_
  refine WC.region ?_
  refine WL.step (ok_move rfl) rfl ?_
  refine WL.call (ok_callF rfl isfn16) rfl (bytesFree l0 a cap _ hI) ?_
  rintro v wb ⟨⟨zb, rfl⟩, hwb⟩
  have hwb := hwb.symm
  subst hwb
  refine WL.step (ok_not rfl) rfl ?_
  refine WL.nil ?_
  refine WX.thenC ?_
  refine WC.cond rfl (fun hc15 => ?_) (fun hc15 => ?_)
  ·
    refine WC.seq ?_
    refine WC.region ?_
    refine WL.step (ok_assign rfl) rfl ?_
    refine WL.nil ?_
    refine WX.thenC ?_
    refine WC.ret ?_
    refine WX.thenR ?_
    exact WX.ret1 rfl rfl ⟨_, rfl, rfl, Kp.refl _ _⟩
  ·
    refine WC.skip ?_
    refine WX.thenC ?_
    refine WC.seq ?_
    refine WC.seq ?_
    refine WC.region ?_
    refine WL.step (ok_move rfl) rfl ?_
    refine WL.step (ok_lenSlice rfl Try.underlying22) rfl ?_
    refine WL.step (ok_gtr rfl rfl) rfl ?_
    refine WL.nil ?_
    refine WX.thenC ?_
    refine WC.cond rfl (fun hc18 => ?_) (fun hc18 => ?_)
    ·
      refine WC.seq ?_
      refine WC.region ?_
      refine WL.step (ok_assign rfl) rfl ?_
      refine WL.nil ?_
      refine WX.thenC ?_
      refine WC.ret ?_
      refine WX.thenR ?_
      exact WX.ret1 rfl rfl ⟨_, rfl, rfl, Kp.refl _ _⟩
    ·
      refine WC.skip ?_
      refine WX.thenC ?_
      refine WC.seq ?_
      refine WC.seq ?_
      refine WC.region ?_
      refine WL.step (ok_move rfl) rfl ?_
      refine WL.call (ok_callF rfl isfn9) rfl (tooBig l0 a cap _ hI) ?_
      rintro v wt ⟨⟨zt, rfl, hzt⟩, hwt⟩
      have hwt := hwt.symm
      subst hwt
      refine WL.nil ?_
      refine WX.thenC ?_
      refine WC.cond rfl (fun hc20 => ?_) (fun hc20 => ?_)
      ·
        refine WC.seq ?_
        refine WC.region ?_
        refine WL.step (ok_assign rfl) rfl ?_
        refine WL.nil ?_
        refine WX.thenC ?_
        refine WC.ret ?_
        refine WX.thenR ?_
        exact WX.ret1 rfl rfl ⟨_, rfl, rfl, Kp.refl _ _⟩
      ·
        obtain ⟨hn0, hc0⟩ := hzt hc20
        have hsm0 : ∀ s ∈ l0, s.cl.length ≤ 1048576 := fun s hs => by have := mem_cites hs; omega
        refine WC.skip ?_
        refine WX.thenC ?_
        refine WC.seq ?_
        refine WC.seq ?_
        refine WC.region ?_
        refine WL.step (ok_move rfl) rfl ?_
        refine WL.call (ok_callF rfl isfn10) rfl (linksIn l0 a cap hn0 hsm0 _ hI) ?_
        rintro v wl ⟨⟨zl, rfl, hzl⟩, hwl⟩
        have hwl := hwl.symm
        subst hwl
        refine WL.step (ok_not rfl) rfl ?_
        refine WL.nil ?_
        refine WX.thenC ?_
        refine WC.cond rfl (fun hc23 => ?_) (fun hc23 => ?_)
        ·
          refine WC.seq ?_
          refine WC.region ?_
          refine WL.step (ok_assign rfl) rfl ?_
          refine WL.nil ?_
          refine WX.thenC ?_
          refine WC.ret ?_
          refine WX.thenR ?_
          exact WX.ret1 rfl rfl ⟨_, rfl, rfl, Kp.refl _ _⟩
        ·
          have hin0 := hzl (by simpa using hc23)
          refine WC.skip ?_
          refine WX.thenC ?_
          refine WC.seq ?_
          refine WC.region ?_
          refine WL.step (ok_move rfl) rfl ?_
          refine WL.call (ok_callF rfl isfn11) rfl (copySteps l0 a cap hn0 hsm0 _ hI) ?_
          rintro v wc ⟨a', cap', l, rfl, hll, hsame, hIc, hEc⟩
          have hn : l.length ≤ 65536 := by omega
          have hcl : 48 * l.length + 8 * cites l ≤ 1048576 := by rw [same_cites hll hsame, hll]; exact hc0
          have hin := same_in hll hsame hin0
          have hsm : ∀ s ∈ l, s.cl.length ≤ 1048576 := fun s hs => by have := mem_cites hs; omega
          refine WL.rew 25 (.slice a' l.length cap') rfl (by rw [hll]) ?_
          refine WL.step (ok_assign rfl) rfl ?_
          refine WL.nil ?_
          refine WX.thenC ?_
          refine WC.seq ?_
          refine WC.region ?_
          refine WL.step (ok_move rfl) rfl ?_
          refine WL.call (ok_callF rfl isfn12) rfl (splitSteps l a' cap' hn _ hIc) ?_
          rintro v wsp ⟨bk, bp, bs, bc, rfl, hbk, hbp, hbs, hbc, hEs⟩
          refine WL.step (ok_move rfl) rfl ?_
          refine WL.step (ok_extract rfl rfl) rfl ?_
          refine WL.step (ok_extract rfl rfl) rfl ?_
          refine WL.step (ok_extract rfl rfl) rfl ?_
          refine WL.step (ok_extract rfl rfl) rfl ?_
          refine WL.step (ok_assign rfl) rfl ?_
          refine WL.step (ok_assign rfl) rfl ?_
          refine WL.step (ok_assign rfl) rfl ?_
          refine WL.step (ok_assign rfl) rfl ?_
          refine WL.nil ?_
          refine WX.thenC ?_
          refine WC.seq ?_
          refine WC.region ?_
          refine WL.step (ok_move rfl) rfl ?_
          refine WL.step (ok_move rfl) rfl ?_
          refine WL.step (ok_move rfl) rfl ?_
          refine WL.step (ok_move rfl) rfl ?_
          refine WL.call (ok_callF rfl isfn13) rfl (zzPlay l hn hcl hin bk bp bs bc _ hbk hbp hbs hbc (fun s hs => (hIc.val s hs).ext hEs)) ?_
          rintro v wpl ⟨o, va, cv, rfl, hOo, hPl, hEo⟩
          have hE0 : Ext w wpl := (hEc.trans hEs).trans hEo
          have hI0 := (hIc.ext hEs).ext hEo
          have hol := hPl.len
          obtain ⟨lk, hlk⟩ : ∃ lk, lk = lkL l := ⟨_, rfl⟩
          rw [← hlk] at hPl
          refine WL.step (ok_assign rfl) rfl ?_
          refine WL.nil ?_
          refine WX.thenC ?_
          refine WC.seq ?_
          refine WC.region ?_
          refine WL.step (ok_move rfl) rfl ?_
          refine WL.step (ok_lenSlice rfl Try.underlying22) rfl ?_
          refine WL.step (ok_assign rfl) rfl ?_
          refine WL.nil ?_
          refine WX.thenC ?_
          refine WC.seq ?_
          refine WC.region ?_
          refine WL.step (ok_assign rfl) rfl ?_
          refine WL.nil ?_
          refine WX.thenC ?_
          refine WC.seq ?_
          refine WC.seq ?_
          refine WC.region ?_
          refine WL.step (ok_assign rfl) rfl ?_
          refine WL.nil ?_
          refine WX.thenC ?_
          refine WC.block ?_
          refine WC.loop (fun i : Nat => [(0, .slice a' l.length cap'), (7, .slice va o.length cv), (8, .int .i64 (l.length : Nat)), (9, .int .i64 ((roots lk i).length : Nat)), (10, .int .i64 (i : Nat))])
            (fun i w' => i ≤ l.length ∧ Ext wpl w') (fun i => l.length - i) 0 (by repeat (first | exact trivial | refine ⟨rfl, ?_⟩)) ?_ ?_
          · exact ⟨by omega, Kp.refl _ _⟩
          rintro i w1 ⟨hin1, hE⟩
          refine WC.seq ?_
          refine WC.seq ?_
          refine WC.region ?_
          refine WL.step (ok_move rfl) rfl ?_
          refine WL.step (ok_move rfl) rfl ?_
          refine WL.step (ok_lss rfl rfl) rfl ?_
          refine WL.nil ?_
          refine WX.thenC ?_
          refine WC.cond rfl (fun hc42 => ?_) (fun hc42 => ?_)
          ·
            have hlt : i < l.length := by have := of_decide_eq_true hc42; omega
            obtain ⟨b, off, rfl, hr⟩ := (hI0.ext hE).at hlt
            refine WC.skip ?_
            refine WX.thenC ?_
            refine WC.seq ?_
            refine WC.block ?_
            refine WC.seq ?_
            refine WC.region ?_
            refine WL.step (ok_move rfl) rfl ?_
            refine WL.step (ok_move rfl) rfl ?_
            refine WL.step (ok_indexS i rfl rfl rfl (by omega) Try.underlying22 sz31) rfl ?_
            refine WL.step (ok_loadN rfl agg31 sz31 rfl (Rd.elem hr (Stp.len l) i hlt)) rfl ?_
            refine WL.call (ok_callF rfl isfn17) rfl (isRoot l[i] (hsm _ (List.getElem_mem hlt)) _ ((hI0.ext hE).val _ (List.getElem_mem hlt))) ?_
            rintro v w49 ⟨rfl, hE49⟩
            refine WL.nil ?_
            refine WX.thenC ?_
            refine WC.cond rfl (fun hc49 => ?_) (fun hc49 => ?_)
            ·
              have hrt : lkOf lk i = [] := by rw [hlk]; exact (root_iff l i hlt).1 (of_decide_eq_true hc49)
              have hat := root_at hPl hlt hrt
              obtain ⟨hrl, hre⟩ := List.getElem?_eq_some_iff.1 hat
              obtain ⟨ob, rfl, hRo⟩ := hOo (fun e => by rw [e] at hrl; simp at hrl)
              have hrs : roots lk (i + 1) = roots lk i ++ [i] := by rw [roots_succ, if_pos (by rw [List.isEmpty_iff, hrt])]
              have hco : w49.cell? ⟨ob, 0 + (roots lk i).length * 1, none⟩ = some (.int .i64 (i : Nat)) := by
                have h := rd_nat ((hRo.kp hE (fun f => f)).kp hE49 (fun f => f)) (roots lk i).length hrl
                rw [hre] at h
                exact h
              refine WC.seq ?_
              refine WC.seq ?_
              refine WC.region ?_
              refine WL.step (ok_move rfl) rfl ?_
              refine WL.step (ok_move rfl) rfl ?_
              refine WL.step (ok_lenSlice rfl Try.underlying25) rfl ?_
              refine WL.step (ok_geq rfl rfl) rfl ?_
              refine WL.step (ok_move rfl) rfl ?_
              refine WL.rew 54 (.bool false) rfl (congrArg Value.bool (decide_eq_false (by omega))) ?_
              refine WL.on rfl rfl ?_
              refine WL.step (ok_move rfl) rfl ?_
              refine WL.on rfl rfl ?_
              refine WL.step (ok_move rfl) rfl ?_
              refine WL.on rfl rfl ?_
              refine WL.step (ok_indexS (roots lk i).length rfl rfl rfl (by omega) Try.underlying25 sz3) rfl ?_
              refine WL.on rfl rfl ?_
              refine WL.step (ok_load rfl one3 (hco)) rfl ?_
              refine WL.on rfl rfl ?_
              refine WL.step (ok_move rfl) rfl ?_
              refine WL.on rfl rfl ?_
              refine WL.step (ok_neq rfl rfl) rfl ?_
              refine WL.step (ok_pickF rfl rfl) rfl ?_
              refine WL.nil ?_
              refine WX.thenC ?_
              refine WC.condFb rfl (by simp) ?_
              refine WC.skip ?_
              refine WX.thenC ?_
              refine WC.region ?_
              refine WL.step (ok_move rfl) rfl ?_
              refine WL.step (ok_add (((roots lk i).length + 1 : Nat) : Int) rfl rfl (by omega) (by omega) (by omega)) rfl ?_
              refine WL.step (ok_assign rfl) rfl ?_
              refine WL.nil ?_
              refine WX.blockN ?_
              refine WX.thenC ?_
              refine WC.region ?_
              refine WL.step (ok_move rfl) rfl ?_
              refine WL.step (ok_add ((i + 1 : Nat) : Int) rfl rfl (by omega) (by omega) (by omega)) rfl ?_
              refine WL.step (ok_assign rfl) rfl ?_
              refine WL.nil ?_
              exact WX.again (i + 1) ⟨rfl, rfl, rfl, by rw [hrs, List.length_append]; rfl, rfl, trivial⟩ ⟨by omega, hE.trans hE49⟩ (by omega)
            ·
              have hrt : ¬ lkOf lk i = [] := fun e => of_decide_eq_false hc49 ((root_iff l i hlt).2 (by rw [← hlk]; exact e))
              have hrs : roots lk (i + 1) = roots lk i := by rw [roots_succ, if_neg (by rw [List.isEmpty_iff]; exact hrt)]
              refine WC.skip ?_
              refine WX.blockN ?_
              refine WX.thenC ?_
              refine WC.region ?_
              refine WL.step (ok_move rfl) rfl ?_
              refine WL.step (ok_add ((i + 1 : Nat) : Int) rfl rfl (by omega) (by omega) (by omega)) rfl ?_
              refine WL.step (ok_assign rfl) rfl ?_
              refine WL.nil ?_
              exact WX.again (i + 1) ⟨rfl, rfl, rfl, by rw [hrs]; rfl, rfl, trivial⟩ ⟨by omega, hE.trans hE49⟩ (by omega)
          ·
            have hge : i = l.length := by have := of_decide_eq_false hc42; omega
            subst hge
            refine WC.exit ?_
            refine WX.thenE ?_
            refine WX.thenE ?_
            refine WX.blockHit ?_
            refine WX.thenC ?_
            refine WC.seq ?_
            refine WC.seq ?_
            refine WC.region ?_
            refine WL.step (ok_move rfl) rfl ?_
            refine WL.step (ok_assign rfl) rfl ?_
            refine WL.nil ?_
            refine WX.thenC ?_
            refine WC.block ?_
            refine WC.loop (fun k : Nat => [(0, .slice a' l.length cap'), (7, .slice va o.length cv), (8, .int .i64 (l.length : Nat)), (11, .int .i64 (k : Nat))])
              (fun k w' => (roots lk l.length).length ≤ k ∧ Ext wpl w') (fun k => o.length - k) (roots lk l.length).length (by repeat (first | exact trivial | refine ⟨rfl, ?_⟩)) ?_ ?_
            · exact ⟨Nat.le_refl _, hE⟩
            rintro k w2 ⟨hkr, hE2⟩
            refine WC.seq ?_
            refine WC.seq ?_
            refine WC.region ?_
            refine WL.step (ok_move rfl) rfl ?_
            refine WL.step (ok_move rfl) rfl ?_
            refine WL.step (ok_lenSlice rfl Try.underlying25) rfl ?_
            refine WL.step (ok_lss rfl rfl) rfl ?_
            refine WL.nil ?_
            refine WX.thenC ?_
            refine WC.cond rfl (fun hc68 => ?_) (fun hc68 => ?_)
            ·
              have hk : k < o.length := by have := of_decide_eq_true hc68; omega
              obtain ⟨ob, rfl, hRo⟩ := hOo (fun e => by rw [e] at hk; simp at hk)
              obtain ⟨i, hi⟩ : ∃ i, i = o[k] := ⟨_, rfl⟩
              have hil : i < l.length := by rw [hi]; exact hPl.lt _ (List.getElem_mem hk)
              have hco : w2.cell? ⟨ob, 0 + k * 1, none⟩ = some (.int .i64 (i : Nat)) := by rw [hi]; exact rd_nat (hRo.kp hE2 (fun f => f)) k hk
              have hnr : lkOf lk i ≠ [] := root_not hPl hkr (by rw [hi]; exact List.getElem?_eq_getElem hk)
              obtain ⟨b, off, rfl, hr⟩ := (hI0.ext hE2).at hil
              refine WC.skip ?_
              refine WX.thenC ?_
              refine WC.seq ?_
              refine WC.block ?_
              refine WC.seq ?_
              refine WC.region ?_
              refine WL.step (ok_move rfl) rfl ?_
              refine WL.step (ok_move rfl) rfl ?_
              refine WL.step (ok_indexS k rfl rfl rfl (by omega) Try.underlying25 sz3) rfl ?_
              refine WL.step (ok_load rfl one3 (hco)) rfl ?_
              refine WL.step (ok_assign rfl) rfl ?_
              refine WL.nil ?_
              refine WX.thenC ?_
              refine WC.seq ?_
              refine WC.region ?_
              refine WL.step (ok_move rfl) rfl ?_
              refine WL.step (ok_lss rfl rfl) rfl ?_
              refine WL.step (ok_move rfl) rfl ?_
              refine WL.rew 77 (.bool false) rfl (congrArg Value.bool (decide_eq_false (by omega))) ?_
              refine WL.on rfl rfl ?_
              refine WL.step (ok_move rfl) rfl ?_
              refine WL.on rfl rfl ?_
              refine WL.step (ok_move rfl) rfl ?_
              refine WL.on rfl rfl ?_
              refine WL.step (ok_geq rfl rfl) rfl ?_
              refine WL.step (ok_pickF rfl rfl) rfl ?_
              refine WL.step (ok_move rfl) rfl ?_
              refine WL.rew 82 (.bool false) rfl (congrArg Value.bool (decide_eq_false (by omega))) ?_
              refine WL.on rfl rfl ?_
              refine WL.step (ok_move rfl) rfl ?_
              refine WL.on rfl rfl ?_
              refine WL.step (ok_move rfl) rfl ?_
              refine WL.on rfl rfl ?_
              refine WL.step (ok_indexS i rfl rfl rfl (by omega) Try.underlying22 sz31) rfl ?_
              refine WL.on rfl rfl ?_
              refine WL.step (ok_loadN rfl agg31 sz31 rfl (Rd.elem hr (Stp.len l) i hil)) rfl ?_
              refine WL.on rfl rfl ?_
              refine WL.call (ok_callF rfl isfn17) rfl (isRoot l[i] (hsm _ (List.getElem_mem hil)) _ ((hI0.ext hE2).val _ (List.getElem_mem hil))) ?_
              rintro v w87 ⟨rfl, hE87⟩
              refine WL.step (ok_pickF rfl rfl) rfl ?_
              refine WL.nil ?_
              refine WX.thenC ?_
              refine WC.condFb rfl (decide_eq_false (fun h => hnr (by rw [hlk]; exact (root_iff l i hil).1 h))) ?_
              refine WC.skip ?_
              refine WX.blockN ?_
              refine WX.thenC ?_
              refine WC.region ?_
              refine WL.step (ok_move rfl) rfl ?_
              refine WL.step (ok_add ((k + 1 : Nat) : Int) rfl rfl (by omega) (by omega) (by omega)) rfl ?_
              refine WL.step (ok_assign rfl) rfl ?_
              refine WL.nil ?_
              exact WX.again (k + 1) (by repeat (first | exact trivial | refine ⟨rfl, ?_⟩)) ⟨by omega, hE2.trans hE87⟩ (by omega)
            ·
              refine WC.exit ?_
              refine WX.thenE ?_
              refine WX.thenE ?_
              refine WX.blockHit ?_
              refine WX.thenC ?_
              refine WC.seq ?_
              refine WC.region ?_
              refine WL.step (ok_assign rfl) rfl ?_
              refine WL.nil ?_
              refine WX.thenC ?_
              refine WC.ret ?_
              exact WX.ret1 rfl rfl ⟨_, rfl, rfl, hE0.trans hE2⟩

end Go.Proofs.Try
