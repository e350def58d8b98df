/- Walks: the order of play. -/
import Derived.Test.Qxb6605742aW1
set_option linter.unusedVariables false
set_option linter.unusedSimpArgs false
set_option maxRecDepth 100000
namespace Go.Sx
open Go.Po
theorem nc_set0 (p : List Nat) (b v : Nat) (hb : b < p.length) : splice (nc p) (0 + b * 1) [.int .i64 (v : Nat)] = nc (p.set b v) := by
  have := nc_set p b v [] hb
  simpa using this
theorem nc_append (x y : List Nat) : nc (x ++ y) = nc x ++ nc y := by simp [nc]
theorem zeros_nc {c : List Value} {n : Nat} (hl : c.length = n * 1) (hz : ∀ i, i < c.length → c[i]? = some (Value.int .i64 0).cells[i % (Value.int .i64 0).cells.size]!) : c = nc (List.replicate n 0) := by
  refine List.ext_getElem? fun i => ?_
  by_cases hi : i < c.length
  · rw [hz i hi]
    have h1 : i % (Value.int .i64 0).cells.size = 0 := by simp [Value.cells, Nat.mod_one]
    rw [h1]
    have h2 : i < n := by omega
    simp [nc, Value.cells, h2]
  · rw [List.getElem?_eq_none (by omega), List.getElem?_eq_none (by simp [nc]; omega)]
theorem zeros_hd {c : List Value} {n : Nat} (hl : c.length = n * 1) (hz : ∀ i, i < c.length → c[i]? = some (Value.slice none 0 0).cells[i % (Value.slice none 0 0).cells.size]!) : c = List.replicate n (.slice none 0 0) := by
  refine List.ext_getElem? fun i => ?_
  by_cases hi : i < c.length
  · rw [hz i hi]
    have h1 : i % (Value.slice none 0 0).cells.size = 0 := by simp [Value.cells, Nat.mod_one]
    rw [h1]
    have h2 : i < n := by omega
    simp [Value.cells, h2]
  · rw [List.getElem?_eq_none (by omega), List.getElem?_eq_none (by simp; omega)]
theorem PSt.start {A : Nat → Prop} {w : World} {wb ab n : Nat} {lk : Lk} (hlk : lk.length = n) (h1 : Own w wb 3 (nc (List.replicate n 0))) (h2 : Own w ab 25 (List.replicate n (.slice none 0 0))) (hne : wb ≠ ab) (a1 : ¬ A wb) (a2 : ¬ A ab) :
    PSt A w wb ab (wat lk 0) (List.replicate n (.slice none 0 0)) (fun _ => none) (lst lk 0 []) (.slice none 0 0) [] none := by
  refine ⟨by rw [wat_zero, hlk]; exact h1, h2, by rw [lst_len, List.length_replicate, hlk], fun j h => ?_, .inl ⟨rfl, rfl, rfl, rfl⟩, hne, a1, a2, (fun j b _ h => by cases h), (fun i j b _ _ h => by cases h), (fun b h => by cases h)⟩
  have hj : j < lk.length := by rw [lst_len] at h; exact h
  have e : (lst lk 0 [])[j] = [] := by rw [lst_get _ _ _ _ hj]; simp [aft_zero]
  rw [e]
  exact .inl ⟨by simp, rfl, rfl, rfl⟩
theorem PSt.hdAt {A : Nat → Prop} {w : World} {wb ab : Nat} {W : List Nat} {hs : List Value} {g : Nat → Option Nat} {L : List (List Nat)} {ov : Value} {o : List Nat} {og : Option Nat} (h : PSt A w wb ab W hs g L ov o og) (j : Nat) (hj : j < hs.length) : w.cell? ⟨ab, 0 + j * 1, none⟩ = some hs[j] := by
  rw [h.hd.cell, Nat.mul_one, Nat.zero_add, List.getElem?_eq_getElem hj]
theorem PSt.wtAt {A : Nat → Prop} {w : World} {wb ab : Nat} {W : List Nat} {hs : List Value} {g : Nat → Option Nat} {L : List (List Nat)} {ov : Value} {o : List Nat} {og : Option Nat} (h : PSt A w wb ab W hs g L ov o og) (j : Nat) (hj : j < W.length) : w.cell? ⟨wb, 0 + j * 1, none⟩ = some (.int .i64 (W.getD j 0 : Nat)) := by
  have := rd_nat h.wt.rd0 j hj
  rw [this]; simp [List.getD, hj]
theorem wst_getD (lk : Lk) (i x : Nat) (h : i < lk.length) : (wst lk i x).getD i 0 = x := by
  have := wst_get lk i x h
  simp only [List.getD, List.getElem?_eq_getElem (show i < (wst lk i x).length by rw [wst_len _ _ _ h]; exact h), Option.getD_some, this]
theorem un_le (lk : Lk) (ord : List Nat) (k i : Nat) : un lk ord k i ≤ (lkOf lk i).length := List.countP_le_length
theorem rd_fld {w : World} {b k : Nat} {l : List Stp} {f : Stp → Int} (h : Rd w b 0 (ic (l.map f))) (hk : k < l.length) : w.cell? ⟨b, 0 + k * 1, none⟩ = some (.int .i64 (f l[k])) := by
  have := rd_int h k (by simpa using hk)
  rw [this]; simp
theorem rd_hdT {w : World} {b k : Nat} {l : List Stp} (h : Rd w b 0 (l.map hdrT)) (hk : k < l.length) : w.cell? ⟨b, 0 + k * 1, none⟩ = some (.slice l[k].ca l[k].cl.length l[k].ccap) := by
  rw [Nat.mul_one]
  exact h k _ (by simp [hdrT, hk])
end Go.Sx
namespace Go.Proofs.Try
open Go.Sx Go.Po

set_option maxHeartbeats 2000000 in
theorem playOrder (l : List Stp) (a : Option Addr) (cap : Nat) (hn : l.length ≤ 65536) (hc : 48 * l.length + 8 * cites l ≤ 1048576) (hin : ∀ s ∈ l, ∀ j ∈ s.js, j < l.length) (w : World) (hI : StpsAt w a l) :
    CallsV Try.prog 29 #[.slice a l.length cap] w fun v w' => ∃ (o : List Nat) (va : Option Addr) (cv : Nat), v = .slice va o.length cv ∧ (o ≠ [] → ∃ b, va = some ⟨b, 0, none⟩ ∧ Rd w' b 0 (nc o)) ∧ Played (lkL l) l.length o ∧ Ext w w' := by
  have hsm : ∀ s ∈ l, s.cl.length ≤ 200000 := fun s hs => by have := mem_cites hs; omega
  refine calls_intro (args := [_]) Try.func29 rfl Try.ntmps29 rfl ?_
  refine WC.seq ?_
  refine WC.region ?_
  refine WL.step (ok_assign rfl) rfl ?_
  refine WL.nil ?_
  refine WX.thenC ?_
  refine WC.seq ?_
  refine WC.region ?_
  refine WL.step (ok_move rfl) rfl ?_
  refine WL.step (ok_lenSlice rfl Try.underlying43) rfl ?_
  refine WL.make (l.length) elt25 rfl (by omega) (by omega) rfl ?_
  intro b15 w15 c15 hb15 ho15 hl15 hz15 hk15 hs15
  refine WL.step (ok_assign rfl) rfl ?_
  refine WL.nil ?_
  refine WX.thenC ?_
  refine WC.seq ?_
  refine WC.region ?_
  refine WL.step (ok_move rfl) rfl ?_
  refine WL.step (ok_lenSlice rfl Try.underlying43) rfl ?_
  refine WL.make (l.length) elt26 rfl (by omega) (by omega) rfl ?_
  intro b18 w18 c18 hb18 ho18 hl18 hz18 hk18 hs18
  obtain ⟨lo, hlo⟩ : ∃ lo, lo = w.heap.size := ⟨_, rfl⟩
  obtain ⟨lk, hlk⟩ : ∃ lk, lk = lkL l := ⟨_, rfl⟩
  have hlkl : lk.length = l.length := by rw [hlk, lkL_length]
  have hzc := zeros_nc hl15 hz15
  have hzh := zeros_hd hl18 hz18
  subst hzc
  subst hzh
  have hP0 : PSt (fun b => b < lo) w18 b15 b18 (wat lk 0) (List.replicate l.length (.slice none 0 0)) (fun _ => none) (lst lk 0 []) (.slice none 0 0) [] none := PSt.start hlkl (ho15.ext hk18) ho18 (by omega) (by show ¬ b15 < lo; omega) (by show ¬ b18 < lo; omega)
  have hE18 : Ext w w18 := hk15.trans hk18
  refine WL.step (ok_assign rfl) rfl ?_
  refine WL.nil ?_
  refine WX.thenC ?_
  refine WC.seq ?_
  refine WC.region ?_
  refine WL.step (ok_assign rfl) rfl ?_
  refine WL.nil ?_
  refine WX.thenC ?_
  refine WC.seq ?_
  refine WC.seq ?_
  refine WC.region ?_
  refine WL.step (ok_move rfl) rfl ?_
  refine WL.step (ok_lenSlice rfl Try.underlying43) rfl ?_
  refine WL.step (ok_move rfl) rfl ?_
  refine WL.nil ?_
  refine WX.thenC ?_
  refine WC.block ?_
  refine WC.loop (fun x : Nat × Option Addr × Nat => [(19, .slice a l.length cap), (20, .int .i64 (l.length : Nat)), (21, .int .i64 (x.1 : Nat)), (3, .slice (some ⟨b15, 0, none⟩) l.length l.length), (4, .slice (some ⟨b18, 0, none⟩) l.length l.length), (5, .slice x.2.1 (roots lk x.1).length x.2.2)])
    (fun x w' => x.1 ≤ l.length ∧ (∃ hs g og, PSt (fun b => b < lo) w' b15 b18 (wat lk x.1) hs g (lst lk x.1 []) (.slice x.2.1 (roots lk x.1).length x.2.2) (roots lk x.1) og) ∧ Ext w w') (fun x => l.length - x.1) (0, none, 0) (by repeat (first | exact trivial | refine ⟨rfl, ?_⟩)) ?_ ?_
  · exact ⟨by show 0 ≤ _; omega, ⟨_, _, _, hP0⟩, hE18⟩
  rintro ⟨i, va, cv⟩ w1 ⟨hin1, ⟨hs, g, og, hP⟩, hE⟩
  dsimp only at hin1 hP hE
  dsimp only
  refine WC.seq ?_
  refine WC.region ?_
  refine WL.step (ok_lss rfl rfl) rfl ?_
  refine WL.nil ?_
  refine WX.thenC ?_
  refine WC.seq ?_
  refine WC.cond rfl (fun hc22 => ?_) (fun hc22 => ?_)
  ·
    have hlt : i < l.length := by have := of_decide_eq_true hc22; omega
    have hlk1 : i < lk.length := by omega
    obtain ⟨b, off, rfl, hr⟩ := (hI.ext hE).at hlt
    refine WC.skip ?_
    refine WX.thenC ?_
    refine WC.seq ?_
    refine WC.block ?_
    refine WC.seq ?_
    refine WC.region ?_
    refine WL.step (ok_move rfl) rfl ?_
    refine WL.step (ok_indexS i rfl rfl rfl (by omega) Try.underlying43 sz46) rfl ?_
    refine WL.step (ok_loadN rfl agg46 sz46 rfl (Rd.elem hr (Stp.len l) i hlt)) rfl ?_
    refine WL.alloc zero46 rfl ?_
    intro b7 w7 hb7 ho7 hk7 hs7
    refine WL.step (ok_assign rfl) rfl ?_
    refine WL.store rfl rfl sz46 (ho7) rfl (by simp [Value.cells, Stp.cells]) stp_one ?_
    intro wr6 hor6 hkr6 hsr6
    have h7 : Own wr6 b7 46 l[i].cells := by
      have h0 := hor6
      simp only [Value.cells] at h0
      rw [splice_all _ _ (by simp [Stp.cells])] at h0
      exact h0
    have hE6 : Ext w1 wr6 := hk7.over hkr6 (fun i hi e => by omega)
    refine WL.nil ?_
    refine WX.thenC ?_
    refine WC.seq ?_
    refine WC.seq ?_
    refine WC.region ?_
    refine WL.step (ok_field rfl fld46_1) rfl ?_
    refine WL.step (ok_load rfl one3 (h7.rd0.cell 1 _ rfl)) rfl ?_
    refine WL.step (ok_field rfl fld46_2) rfl ?_
    refine WL.step (ok_load rfl one3 (h7.rd0.cell 2 _ rfl)) rfl ?_
    refine WL.buildSlice (size := 1) (ic [l[i].prev, l[i].send]) elt25 (by decide) (by decide) rfl (fill_two _ _ _ (by simp)) rfl ?_
    intro b30 w30 hb30 ho30 hk30 hs30
    refine WL.step (ok_field rfl fld46_3) rfl ?_
    refine WL.step (ok_load rfl one25 ((h7.ext hk30).rd0.cell 3 _ rfl)) rfl ?_
    have hE30 : Ext w1 w30 := hE6.trans hk30
    have hsi := hsm _ (List.getElem_mem hlt)
    refine WL.appendI (n := 2) (xs := ic [l[i].prev, l[i].send]) (g := some b30) (cl := l[i].cl) rfl rfl rfl elt25 (.inr ⟨b30, 2, [], rfl, by rw [List.append_nil]; exact ho30, rfl, rfl, by decide, rfl⟩) (by decide) ((hI.val _ (List.getElem_mem hlt)).ext (hE.trans hE30)) (by omega) (by omega) ?_
    intro v33 w33 g33 hS33 hK33 hg33
    obtain ⟨jb, jcap, jsp, rfl, hOj, hjl, hjc, hjn, hgj⟩ := hS33.some (by omega)
    obtain ⟨js, hjs⟩ : ∃ js, js = l[i].js := ⟨_, rfl⟩
    have hjsl : js.length = 2 + l[i].cl.length := by rw [hjs]; show (l[i].cl.length + 1) + 1 = _; omega
    have hRj : Rd w33 jb 0 (ic js) := by
      have h := hOj.rd0.append_left
      rw [← ic_append] at h
      rw [hjs]; exact h
    have hs6 := hE6.size
    have hs130 := hE30.size
    have hjb : w1.heap.size ≤ jb := by
      rcases hg33 with e | ⟨e, _⟩
      · rw [hgj] at e; cases e; omega
      · rw [hgj] at e; cases e; exact hs130
    have hE33 : Ext w1 w33 := hE30.over hK33 (fun k hk e => by cases e; omega)
    have hPj := hP.move (B := (fun b => b < lo ∨ b = jb)) hE33 (fun b hb => hb.elim .inl (fun e => .inr (by rw [e]; exact hjb)))
    have hjlt : jb < w33.heap.size := hOj.lt
    have hA33 : ∀ b, (b < lo ∨ b = jb) → b < w33.heap.size := by
      intro b hb
      have h1 := hE.size
      have h2 := hE33.size
      omega
    have hlksi : lkOf lk i = lks js := by rw [hlk, lkOf_lkL l i hlt, hjs]
    refine WL.rew 33 (.slice (some ⟨jb, 0, none⟩) js.length jcap) rfl (by rw [hjsl]) ?_
    refine WL.step (ok_lenSlice rfl Try.underlying25) rfl ?_
    refine WL.step (ok_move rfl) rfl ?_
    refine WL.nil ?_
    refine WX.thenC ?_
    refine WC.block ?_
    refine WC.loop (fun c : Nat => [(19, .slice (some ⟨b, off, none⟩) l.length cap), (20, .int .i64 (l.length : Nat)), (21, .int .i64 (i : Nat)), (3, .slice (some ⟨b15, 0, none⟩) l.length l.length), (4, .slice (some ⟨b18, 0, none⟩) l.length l.length), (5, .slice va (roots lk i).length cv), (6, .int .i64 (i : Nat)), (33, .slice (some ⟨jb, 0, none⟩) js.length jcap), (34, .int .i64 (js.length : Nat)), (35, .int .i64 (c : Nat))])
      (fun c w' => c ≤ js.length ∧ (∃ hs g og, PSt (fun b => b < lo ∨ b = jb) w' b15 b18 (wst lk i (lks (js.take c)).length) hs g (lst lk i (lks (js.take c))) (.slice va (roots lk i).length cv) (roots lk i) og) ∧ Kp (fun b => ¬ (b < lo ∨ b = jb)) w33 w') (fun c => js.length - c) 0 (by repeat (first | exact trivial | refine ⟨rfl, ?_⟩)) ?_ ?_
    · exact ⟨by omega, ⟨_, _, _, by rw [wat_eq lk i hlk1] at hPj; exact hPj⟩, Kp.refl _ _⟩
    rintro c w2 ⟨hcn, ⟨hs, g, og2, hP2⟩, hK2⟩
    have hRj2 := hRj.kp hK2 (fun q => q (.inr rfl))
    refine WC.seq ?_
    refine WC.region ?_
    refine WL.step (ok_lss rfl rfl) rfl ?_
    refine WL.nil ?_
    refine WX.thenC ?_
    refine WC.seq ?_
    refine WC.cond rfl (fun hc36 => ?_) (fun hc36 => ?_)
    ·
      have hlt2 : c < js.length := by have := of_decide_eq_true hc36; omega
      refine WC.skip ?_
      refine WX.thenC ?_
      refine WC.seq ?_
      refine WC.block ?_
      refine WC.seq ?_
      refine WC.region ?_
      refine WL.step (ok_indexS _ rfl rfl rfl (by omega) Try.underlying25 sz3) rfl ?_
      refine WL.step (ok_load rfl one3 (rd_int hRj2 c hlt2)) rfl ?_
      obtain ⟨z, hz⟩ : ∃ z, z = js[c] := ⟨_, rfl⟩
      refine WL.rew 38 (.int .i64 z) rfl (by rw [hz]) ?_
      refine WL.step (ok_assign rfl) rfl ?_
      refine WL.nil ?_
      refine WX.thenC ?_
      refine WC.seq ?_
      refine WC.region ?_
      refine WL.step (ok_move rfl) rfl ?_
      refine WL.step (ok_geq rfl rfl) rfl ?_
      refine WL.nil ?_
      refine WX.thenC ?_
      refine WC.cond rfl (fun hc40 => ?_) (fun hc40 => ?_)
      ·
        have hz0 : 0 ≤ z := of_decide_eq_true hc40
        obtain ⟨zn, hzz⟩ : ∃ zn : Nat, z = (zn : Int) := ⟨z.toNat, by omega⟩
        subst hzz
        have hzn : zn < l.length := by have h := hin _ (List.getElem_mem hlt) (js[c]) (by rw [← hjs]; exact List.getElem_mem hlt2); omega
        obtain ⟨ls, hls0⟩ : ∃ y, y = lks (js.take c) := ⟨_, rfl⟩
        have hls : lks (js.take (c + 1)) = ls ++ [zn] := by rw [lks_take_succ js c hlt2, ← hz, if_pos hz0, hls0]; rfl
        rw [← hls0] at hP2
        obtain ⟨x, hx⟩ : ∃ x, x = ls.length := ⟨_, rfl⟩
        have hxs : x ≤ js.length := by rw [hx, hls0]; have := lks_length_le (js.take c); rw [List.length_take] at this; omega
        rw [← hx] at hP2
        have hcw : w2.cell? ⟨b15, 0 + i * 1, none⟩ = some (.int .i64 (x : Nat)) := by rw [hP2.wtAt i (by rw [wst_len _ _ _ hlk1]; exact hlk1), wst_getD _ _ _ hlk1]
        refine WC.seq ?_
        refine WC.region ?_
        refine WL.step (ok_move rfl) rfl ?_
        refine WL.step (ok_move rfl) rfl ?_
        refine WL.step (ok_indexS i rfl rfl rfl (by omega) Try.underlying25 sz3) rfl ?_
        refine WL.step (ok_load rfl one3 (hcw)) rfl ?_
        refine WL.step (ok_add ((x + 1 : Nat) : Int) rfl rfl (by omega) (by omega) (by omega)) rfl ?_
        refine WL.step (ok_indexS i rfl rfl rfl (by omega) Try.underlying25 sz3) rfl ?_
        refine WL.store rfl rfl sz3 (hP2.wt) (by simp [Value.cells]) (by simp [Value.cells, wst_len lk i _ hlk1]; omega) (by simp [Value.cells, Value.oneCell']) ?_
        intro wr11 hor11 hkr11 hsr11
        have h11 : Own wr11 b15 3 (nc (wst lk i (x + 1))) := by
          have h0 := hor11
          simp only [Value.cells] at h0
          rw [← wst_set lk i x (x + 1) hlk1, ← nc_set0 _ i (x + 1) (by rw [wst_len _ _ _ hlk1]; exact hlk1)]
          exact h0
        have hP11 := hP2.setW hkr11 h11
        have hhl : hs.length = l.length := by rw [hP11.hl, lst_len, hlkl]
        obtain ⟨hv, hhv⟩ : ∃ v, v = hs[zn] := ⟨_, rfl⟩
        have hzL : zn < (lst lk i ls).length := by rw [lst_len]; omega
        obtain ⟨Lz, hLz⟩ : ∃ y, y = (lst lk i ls)[zn] := ⟨_, rfl⟩
        have hLs : Lz.length ≤ 1000000 := by
          rw [hLz, lst_get _ _ _ _ (show zn < lk.length by omega), List.length_append, List.length_replicate]
          have q1 := lst_small l i (by omega) zn
          rw [← hlk] at q1
          have q2 : ls.count zn ≤ ls.length := List.count_le_length
          omega
        have hsl11 : Slo wr11 hv 3 1 Lz.length (nc Lz) (g zn) := by rw [hhv, hLz]; exact hP11.sl zn hzL
        refine WL.nil ?_
        refine WX.thenC ?_
        refine WC.region ?_
        refine WL.step (ok_move rfl) rfl ?_
        refine WL.step (ok_move rfl) rfl ?_
        refine WL.step (ok_move rfl) rfl ?_
        refine WL.step (ok_move rfl) rfl ?_
        refine WL.step (ok_indexS zn rfl rfl rfl (by omega) Try.underlying26 sz25) rfl ?_
        refine WL.step (ok_load rfl one25 (hP11.hdAt zn (by omega))) rfl ?_
        refine WL.rew 52 hv rfl hhv.symm ?_
        refine WL.step (ok_move rfl) rfl ?_
        refine WL.buildSlice (size := 1) (nc [i]) elt25 (by decide) (by decide) rfl (fill_one 1 _ (.int .i64 ((i : Nat) : Int)) (by simp) rfl) rfl ?_
        intro b54 w54 hb54 ho54 hk54 hs54
        refine WL.append (c := 1) (b := b54) (off := 0) (m := 1) (news := nc [i]) (n := Lz.length) (xs := nc Lz) (v := hv) (g := g zn) rfl rfl rfl elt25 (hsl11.kp hk54 (fun _ _ f => f)) rfl ho54.rd0 (nc_one _) (by decide) (by omega) (by omega) ?_
        intro v55 w55 g55 hS55 hK55 hg55
        have hS55' : Slo w55 v55 3 1 (Lz ++ [i]).length (nc (Lz ++ [i])) g55 := by rw [List.length_append, nc_append]; exact hS55
        obtain ⟨va55, cap55, e55, _⟩ := hS55.form
        subst e55
        have hs11 := hkr11.size
        have hs254 := hk54.size
        have hsK2 := hK2.size
        refine WL.step (ok_indexS zn rfl rfl rfl (by omega) Try.underlying26 sz25) rfl ?_
        refine WL.store rfl rfl sz25 (hK55.own (hP11.hd.ext hk54) (fun e => (hP11.gb zn _ hzL e).2.2 rfl)) (by simp [Value.cells]) (by simp [Value.cells]; omega) (by simp [Value.cells, Value.oneCell']) ?_
        intro wr12 hor12 hkr12 hsr12
        have h12 : Own wr12 b18 25 (hs.set zn (.slice va55 (Lz.length + 1) cap55)) := by
          have h0 := hor12
          simp only [Value.cells] at h0
          rw [← hs_set _ _ _ (show zn < hs.length by omega)]
          exact h0
        have hP12 := (hP11.ext hk54).putA (fun b hb => Nat.lt_of_lt_of_le (hA33 b hb) (by omega)) hzL hK55 hS55' hg55 hkr12 h12
        rw [hLz, lst_put lk i ls zn (by omega)] at hP12
        have hK12 : Kp (fun b => ¬ (b < lo ∨ b = jb)) w33 wr12 := (((hK2.trans (hkr11.mono (fun k _ e => by rw [e]; exact hP2.aw))).trans (Kp.of_ext hk54)).trans (hK55.mono (fun k _ e => (hP11.gb zn k hzL e).1))).trans (hkr12.mono (fun k _ e => by rw [e]; exact hP2.aa))
        refine WL.nil ?_
        refine WX.blockN ?_
        refine WX.thenC ?_
        refine WC.region ?_
        refine WL.step (ok_add ((c + 1 : Nat) : Int) rfl rfl (by omega) (by omega) (by omega)) rfl ?_
        refine WL.step (ok_move rfl) rfl ?_
        refine WL.nil ?_
        exact WX.again (c + 1) (by repeat (first | exact trivial | refine ⟨rfl, ?_⟩)) ⟨by omega, ⟨_, _, _, by rw [hls, List.length_append, ← hx]; exact hP12⟩, hK12⟩ (by omega)
      ·
        have hz0 : ¬ 0 ≤ z := of_decide_eq_false hc40
        have hls : lks (js.take (c + 1)) = lks (js.take c) := by rw [lks_take_succ js c hlt2, ← hz, if_neg hz0]
        refine WC.skip ?_
        refine WX.blockN ?_
        refine WX.thenC ?_
        refine WC.region ?_
        refine WL.step (ok_add ((c + 1 : Nat) : Int) rfl rfl (by omega) (by omega) (by omega)) rfl ?_
        refine WL.step (ok_move rfl) rfl ?_
        refine WL.nil ?_
        exact WX.again (c + 1) (by repeat (first | exact trivial | refine ⟨rfl, ?_⟩)) ⟨by omega, ⟨_, _, _, by rw [hls]; exact hP2⟩, hK2⟩ (by omega)
    ·
      have hge2 : c = js.length := by have := of_decide_eq_false hc36; omega
      have hls : lks (js.take c) = lkOf lk i := by rw [hlksi, hge2, List.take_length]
      rw [hls] at hP2
      obtain ⟨x, hx⟩ : ∃ x, x = (lkOf lk i).length := ⟨_, rfl⟩
      have hcwe : w2.cell? ⟨b15, 0 + i * 1, none⟩ = some (.int .i64 (x : Nat)) := by rw [hP2.wtAt i (by rw [wst_len _ _ _ hlk1]; exact hlk1), wst_getD _ _ _ hlk1, hx]
      rw [wat_succ lk i hlk1, lst_next] at hP2
      have hE2 : Ext w w2 := (hE.trans hE33).over hK2 (fun k hk q => q (.inl (by omega)))
      refine WC.exit ?_
      refine WX.thenE ?_
      refine WX.thenE ?_
      refine WX.blockHit ?_
      refine WX.thenC ?_
      refine WC.seq ?_
      refine WC.region ?_
      refine WL.step (ok_move rfl) rfl ?_
      refine WL.step (ok_move rfl) rfl ?_
      refine WL.step (ok_indexS i rfl rfl rfl (by omega) Try.underlying25 sz3) rfl ?_
      refine WL.step (ok_load rfl one3 (hcwe)) rfl ?_
      refine WL.step (ok_eql rfl rfl) rfl ?_
      refine WL.nil ?_
      refine WX.thenC ?_
      refine WC.cond rfl (fun hc62 => ?_) (fun hc62 => ?_)
      ·
        have hl0 : lkOf lk i = [] := List.eq_nil_of_length_eq_zero (by have := of_decide_eq_true hc62; omega)
        have hrl := roots_len lk i
        refine WC.region ?_
        refine WL.step (ok_move rfl) rfl ?_
        refine WL.step (ok_move rfl) rfl ?_
        refine WL.buildSlice (size := 1) (nc [i]) elt25 (by decide) (by decide) rfl (fill_one 1 _ (.int .i64 ((i : Nat) : Int)) (by simp) rfl) rfl ?_
        intro b65 w65 hb65 ho65 hk65 hs65
        refine WL.append (c := 1) (b := b65) (off := 0) (m := 1) (news := nc [i]) (n := (roots lk i).length) (xs := nc (roots lk i)) (v := .slice va (roots lk i).length cv) (g := og2) rfl rfl rfl elt25 (hP2.od.kp hk65 (fun _ _ f => f)) rfl ho65.rd0 (nc_one _) (by decide) (by omega) (by omega) ?_
        intro v66 w66 g66 hS66 hK66 hg66
        have hS66' : Slo w66 v66 3 1 (roots lk i ++ [i]).length (nc (roots lk i ++ [i])) g66 := by rw [List.length_append, nc_append]; exact hS66
        obtain ⟨va66, cap66, e66, _⟩ := hS66'.form
        subst e66
        have hP66 := (hP2.ext hk65).putO (fun b hb => Nat.lt_of_lt_of_le (hA33 b hb) (Nat.le_trans hK2.size hk65.size)) hK66 hS66' hg66
        have hE66 : Ext w w66 := (hE2.trans hk65).over hK66 (fun k hk e => (hP2.ob k e).1 (.inl (by omega)))
        have hr66 : roots lk (i + 1) = roots lk i ++ [i] := by rw [roots_succ, if_pos (by rw [List.isEmpty_iff, hl0])]
        rw [← hr66] at hP66
        refine WL.rew 66 (.slice va66 (roots lk (i + 1)).length cap66) rfl (by rw [hr66]) ?_
        refine WL.step (ok_assign rfl) rfl ?_
        refine WL.nil ?_
        refine WX.blockN ?_
        refine WX.thenC ?_
        refine WC.region ?_
        refine WL.step (ok_add ((i + 1 : Nat) : Int) rfl rfl (by omega) (by omega) (by omega)) rfl ?_
        refine WL.step (ok_move rfl) rfl ?_
        refine WL.nil ?_
        exact WX.again (i + 1, va66, cap66) (by repeat (first | exact trivial | refine ⟨rfl, ?_⟩)) ⟨by show i + 1 ≤ _; omega, ⟨_, _, _, hP66.move (Kp.refl _ _) (fun b hb => .inl (.inl hb))⟩, hE66⟩ (by show _ - (i + 1) < _ - i; omega)
      ·
        have hl0 : lkOf lk i ≠ [] := fun e => by have := of_decide_eq_false hc62; rw [hx, e] at this; exact this rfl
        have hr66 : roots lk (i + 1) = roots lk i := by rw [roots_succ, if_neg (by rw [List.isEmpty_iff]; exact hl0)]
        refine WC.skip ?_
        refine WX.blockN ?_
        refine WX.thenC ?_
        refine WC.region ?_
        refine WL.step (ok_add ((i + 1 : Nat) : Int) rfl rfl (by omega) (by omega) (by omega)) rfl ?_
        refine WL.step (ok_move rfl) rfl ?_
        refine WL.nil ?_
        exact WX.again (i + 1, va, cv) ⟨rfl, rfl, rfl, rfl, rfl, by rw [hr66]; rfl, trivial⟩ ⟨by show i + 1 ≤ _; omega, ⟨_, _, _, by rw [hr66]; exact hP2.move (Kp.refl _ _) (fun b hb => .inl (.inl hb))⟩, hE2⟩ (by show _ - (i + 1) < _ - i; omega)
  ·
    have hge : i = l.length := by have := of_decide_eq_false hc22; omega
    subst hge
    rw [wat_all lk l.length hlkl.symm] at hP
    have hhl : hs.length = l.length := by rw [hP.hl, lst_len, hlkl]
    have hPI0 := PInv.start lk
    rw [hlkl] at hPI0
    refine WC.exit ?_
    refine WX.thenE ?_
    refine WX.thenE ?_
    refine WX.blockHit ?_
    refine WX.thenC ?_
    refine WC.seq ?_
    refine WC.seq ?_
    refine WC.region ?_
    refine WL.step (ok_assign rfl) rfl ?_
    refine WL.nil ?_
    refine WX.thenC ?_
    refine WC.block ?_
    refine WC.loop (fun x : Nat × Option Addr × Nat × List Nat × List Nat => [(3, .slice (some ⟨b15, 0, none⟩) l.length l.length), (4, .slice (some ⟨b18, 0, none⟩) l.length l.length), (5, .slice x.2.1 x.2.2.2.1.length x.2.2.1), (10, .int .i64 (x.1 : Nat))])
      (fun x w' => x.1 ≤ x.2.2.2.1.length ∧ PInv lk l.length x.2.2.2.2 x.2.2.2.1 x.1 [] ∧ (∃ og, PSt (fun b => b < lo) w' b15 b18 x.2.2.2.2 hs g (lst lk l.length []) (.slice x.2.1 x.2.2.2.1.length x.2.2.1) x.2.2.2.1 og) ∧ Ext w w') (fun x => l.length - x.1) (0, va, cv, roots lk l.length, lk.map List.length) (by repeat (first | exact trivial | refine ⟨rfl, ?_⟩)) ?_ ?_
    · exact ⟨by show 0 ≤ _; omega, hPI0, ⟨_, hP⟩, hE⟩
    clear hPI0 hP hE
    rintro ⟨k, va, cv, o, W⟩ w2 ⟨hkn, hPI, ⟨og2, hP⟩, hE⟩
    dsimp only at hkn hPI hP hE
    dsimp only
    refine WC.seq ?_
    refine WC.seq ?_
    refine WC.region ?_
    refine WL.step (ok_move rfl) rfl ?_
    refine WL.step (ok_move rfl) rfl ?_
    refine WL.step (ok_lenSlice rfl Try.underlying25) rfl ?_
    refine WL.step (ok_lss rfl rfl) rfl ?_
    refine WL.nil ?_
    refine WX.thenC ?_
    refine WC.cond rfl (fun hc71 => ?_) (fun hc71 => ?_)
    ·
      have hk : k < o.length := by have := of_decide_eq_true hc71; omega
      have hon := nodup_len l.length o hPI.nd hPI.lt
      obtain ⟨ob, ocap, osp, heqo, hOo, hol1, hoc, hocc, hgo⟩ := hP.od.some (by omega)
      cases heqo
      obtain ⟨j, hj⟩ : ∃ j, j = o[k] := ⟨_, rfl⟩
      have hjn : j < l.length := by rw [hj]; exact hPI.lt _ (List.getElem_mem _)
      have hcx : w2.cell? ⟨ob, 0 + k * 1, none⟩ = some (.int .i64 (j : Nat)) := by rw [hj]; exact rd_nat hOo.rd0.append_left k hk
      have hjL : j < (lst lk l.length []).length := by rw [lst_len]; omega
      obtain ⟨Aj, hAj⟩ : ∃ y, y = aft lk l.length j := ⟨_, rfl⟩
      have hLj : (lst lk l.length [])[j] = Aj := by rw [lst_get _ _ _ _ (by omega), hAj]; simp
      have hjhs : j < hs.length := by omega
      obtain ⟨ja, jc, hform, _⟩ : ∃ ja jc, hs[j] = .slice ja Aj.length jc ∧ Aj.length ≤ jc := by rw [← hLj]; exact (hP.sl j hjL).form
      have hAjs : Aj.length ≤ 1000000 := by have q := lst_small l l.length (Nat.le_refl _) j; rw [← hlk, ← hAj] at q; omega
      refine WC.skip ?_
      refine WX.thenC ?_
      refine WC.seq ?_
      refine WC.block ?_
      refine WC.seq ?_
      refine WC.region ?_
      refine WL.step (ok_move rfl) rfl ?_
      refine WL.step (ok_move rfl) rfl ?_
      refine WL.step (ok_move rfl) rfl ?_
      refine WL.step (ok_indexS k rfl rfl rfl (by omega) Try.underlying25 sz3) rfl ?_
      refine WL.step (ok_load rfl one3 (hcx)) rfl ?_
      refine WL.step (ok_indexS j rfl rfl rfl (by omega) Try.underlying26 sz25) rfl ?_
      refine WL.step (ok_load rfl one25 (hP.hdAt j (by omega))) rfl ?_
      refine WL.rew 80 (.slice ja Aj.length jc) rfl hform ?_
      refine WL.step (ok_lenSlice rfl Try.underlying25) rfl ?_
      refine WL.step (ok_move rfl) rfl ?_
      refine WL.nil ?_
      refine WX.thenC ?_
      refine WC.block ?_
      refine WC.loop (fun x : Nat × Option Addr × Nat × List Nat × List Nat => [(3, .slice (some ⟨b15, 0, none⟩) l.length l.length), (4, .slice (some ⟨b18, 0, none⟩) l.length l.length), (5, .slice x.2.1 x.2.2.2.1.length x.2.2.1), (10, .int .i64 (k : Nat)), (80, .slice ja Aj.length jc), (81, .int .i64 (Aj.length : Nat)), (82, .int .i64 (x.1 : Nat))])
        (fun x w' => x.1 ≤ Aj.length ∧ k < x.2.2.2.1.length ∧ x.2.2.2.1[k]? = some j ∧ PInv lk l.length x.2.2.2.2 x.2.2.2.1 k (Aj.take x.1) ∧ (∃ og, PSt (fun b => b < lo) w' b15 b18 x.2.2.2.2 hs g (lst lk l.length []) (.slice x.2.1 x.2.2.2.1.length x.2.2.1) x.2.2.2.1 og) ∧ Ext w w') (fun x => Aj.length - x.1) (0, some ⟨ob, 0, none⟩, cv, o, W) (by repeat (first | exact trivial | refine ⟨rfl, ?_⟩)) ?_ ?_
      · exact ⟨by show 0 ≤ _; omega, hk, by rw [hj]; exact List.getElem?_eq_getElem hk, hPI, ⟨_, hP⟩, hE⟩
      clear hPI hP hE hOo hcx hgo hol1 hoc hon
      rintro ⟨c, va, cv3, o, W⟩ w3 ⟨hcn, hk3, hok, hPI3, ⟨og3, hP3⟩, hE3⟩
      dsimp only at hcn hk3 hok hPI3 hP3 hE3
      dsimp only
      have hon3 := nodup_len l.length o hPI3.nd hPI3.lt
      refine WC.seq ?_
      refine WC.region ?_
      refine WL.step (ok_lss rfl rfl) rfl ?_
      refine WL.nil ?_
      refine WX.thenC ?_
      refine WC.seq ?_
      refine WC.cond rfl (fun hc83 => ?_) (fun hc83 => ?_)
      ·
        have hlc : c < Aj.length := by have := of_decide_eq_true hc83; omega
        have hslj := hP3.sl j hjL
        rw [hLj, hform] at hslj
        obtain ⟨qb, qcap, qsp, hq, hOq, hql1, hqc, hqcc, hgq⟩ := hslj.some (by omega)
        cases hq
        obtain ⟨i, hi⟩ : ∃ i, i = Aj[c] := ⟨_, rfl⟩
        have hcq : w3.cell? ⟨qb, 0 + c * 1, none⟩ = some (.int .i64 (i : Nat)) := by rw [hi]; exact rd_nat hOq.rd0.append_left c hlc
        have hspl : aft lk l.length o[k] = Aj.take c ++ i :: Aj.drop (c + 1) := by rw [(List.getElem?_eq_some_iff.1 hok).2, ← hAj, hi, List.getElem_cons_drop, List.take_append_drop]
        obtain ⟨hin2, hpos, hno⟩ := hPI3.pos hk3 hspl
        obtain ⟨x, hx⟩ : ∃ x, x = W.getD i 0 := ⟨_, rfl⟩
        have hWl := hPI3.lenW
        have hcw : w3.cell? ⟨b15, 0 + i * 1, none⟩ = some (.int .i64 (x : Nat)) := by rw [hP3.wtAt i (by omega), hx]
        have hxs : x ≤ 2000000 := by
          have q1 := hPI3.w i hin2
          have q2 := un_le lk o k i
          rw [hlk, lkOf_lkL l i hin2] at q2
          have q3 := lks_length_le l[i].js
          have q4 : l[i].js.length = l[i].cl.length + 2 := rfl
          have q5 := hsm _ (List.getElem_mem hin2)
          rw [hlk] at q1
          omega
        rw [← hx] at hpos
        have htk : Aj.take (c + 1) = Aj.take c ++ [i] := by rw [List.take_succ_eq_append_getElem hlc, hi]
        refine WC.skip ?_
        refine WX.thenC ?_
        refine WC.seq ?_
        refine WC.block ?_
        refine WC.seq ?_
        refine WC.region ?_
        refine WL.step (ok_indexS c rfl rfl rfl (by omega) Try.underlying25 sz3) rfl ?_
        refine WL.step (ok_load rfl one3 (hcq)) rfl ?_
        refine WL.step (ok_assign rfl) rfl ?_
        refine WL.nil ?_
        refine WX.thenC ?_
        refine WC.seq ?_
        refine WC.region ?_
        refine WL.step (ok_move rfl) rfl ?_
        refine WL.step (ok_move rfl) rfl ?_
        refine WL.step (ok_indexS i rfl rfl rfl (by omega) Try.underlying25 sz3) rfl ?_
        refine WL.step (ok_load rfl one3 (hcw)) rfl ?_
        refine WL.step (ok_sub ((x - 1 : Nat) : Int) rfl rfl (by omega) (by omega) (by omega)) rfl ?_
        refine WL.step (ok_indexS i rfl rfl rfl (by omega) Try.underlying25 sz3) rfl ?_
        refine WL.store rfl rfl sz3 (hP3.wt) (by simp [Value.cells]) (by simp [Value.cells]; omega) (by simp [Value.cells, Value.oneCell']) ?_
        intro wr23 hor23 hkr23 hsr23
        have h23 : Own wr23 b15 3 (nc (W.set i (x - 1))) := by
          have h0 := hor23
          simp only [Value.cells] at h0
          rw [← nc_set0 _ i (x - 1) (by omega)]
          exact h0
        have hP23 := hP3.setW hkr23 h23
        have hE23 : Ext w wr23 := hE3.over hkr23 (fun k hk e => by subst e; exact hP3.aw (by show _ < lo; omega))
        have hcw2 : wr23.cell? ⟨b15, 0 + i * 1, none⟩ = some (.int .i64 ((x - 1 : Nat) : Int)) := by
          rw [hP23.wtAt i (by simp; omega), getD_set W i i (x - 1) (by omega), if_pos rfl]
        refine WL.nil ?_
        refine WX.thenC ?_
        refine WC.seq ?_
        refine WC.region ?_
        refine WL.step (ok_move rfl) rfl ?_
        refine WL.step (ok_move rfl) rfl ?_
        refine WL.step (ok_indexS i rfl rfl rfl (by omega) Try.underlying25 sz3) rfl ?_
        refine WL.step (ok_load rfl one3 (hcw2)) rfl ?_
        refine WL.step (ok_eql rfl rfl) rfl ?_
        refine WL.nil ?_
        refine WX.thenC ?_
        refine WC.cond rfl (fun hc96 => ?_) (fun hc96 => ?_)
        ·
          have hx0 : W.getD i 0 - 1 = 0 := by have := of_decide_eq_true hc96; omega
          have hPp := hPI3.put hk3 hspl hx0
          rw [← hx, ← htk] at hPp
          refine WC.region ?_
          refine WL.step (ok_move rfl) rfl ?_
          refine WL.step (ok_move rfl) rfl ?_
          refine WL.buildSlice (size := 1) (nc [i]) elt25 (by decide) (by decide) rfl (fill_one 1 _ (.int .i64 ((i : Nat) : Int)) (by simp) rfl) rfl ?_
          intro b99 w99 hb99 ho99 hk99 hs99
          refine WL.append (c := 1) (b := b99) (off := 0) (m := 1) (news := nc [i]) (n := o.length) (xs := nc o) (v := .slice va o.length cv3) (g := og3) rfl rfl rfl elt25 (hP23.od.kp hk99 (fun _ _ f => f)) rfl ho99.rd0 (nc_one _) (by decide) (by omega) (by omega) ?_
          intro v100 w100 g100 hS100 hK100 hg100
          have hS100' : Slo w100 v100 3 1 (o ++ [i]).length (nc (o ++ [i])) g100 := by rw [List.length_append, nc_append]; exact hS100
          obtain ⟨va100, cap100, e100, _⟩ := hS100'.form
          subst e100
          have hP100 := (hP23.ext hk99).putO (fun b hb => by have h1 := hE23.size; have h2 := hk99.size; have h3 : b < lo := hb; omega) hK100 hS100' hg100
          have hE100 : Ext w w100 := (hE23.trans hk99).over hK100 (fun k hk e => (hP23.ob k e).1 (by show k < lo; omega))
          refine WL.step (ok_assign rfl) rfl ?_
          refine WL.nil ?_
          refine WX.blockN ?_
          refine WX.thenC ?_
          refine WC.region ?_
          refine WL.step (ok_add ((c + 1 : Nat) : Int) rfl rfl (by omega) (by omega) (by omega)) rfl ?_
          refine WL.step (ok_move rfl) rfl ?_
          refine WL.nil ?_
          exact WX.again (c + 1, va100, cap100, o ++ [i], W.set i (x - 1)) (by repeat (first | exact trivial | refine ⟨rfl, ?_⟩)) ⟨by show c + 1 ≤ _; omega, by show k < (o ++ [i]).length; simp; omega, by show (o ++ [i])[k]? = _; rw [List.getElem?_append_left hk3]; exact hok, hPp, ⟨_, hP100⟩, hE100⟩ (by show _ - (c + 1) < _ - c; omega)
        ·
          have hx0 : W.getD i 0 - 1 ≠ 0 := by have := of_decide_eq_false hc96; omega
          have hPd := hPI3.dec hk3 hspl hx0
          rw [← hx, ← htk] at hPd
          refine WC.skip ?_
          refine WX.blockN ?_
          refine WX.thenC ?_
          refine WC.region ?_
          refine WL.step (ok_add ((c + 1 : Nat) : Int) rfl rfl (by omega) (by omega) (by omega)) rfl ?_
          refine WL.step (ok_move rfl) rfl ?_
          refine WL.nil ?_
          exact WX.again (c + 1, va, cv3, o, W.set i (x - 1)) (by repeat (first | exact trivial | refine ⟨rfl, ?_⟩)) ⟨by show c + 1 ≤ _; omega, hk3, hok, hPd, ⟨_, hP23⟩, hE23⟩ (by show _ - (c + 1) < _ - c; omega)
      ·
        have hce : c = Aj.length := by have := of_decide_eq_false hc83; omega
        have hPN := hPI3.next hk3 (by rw [(List.getElem?_eq_some_iff.1 hok).2, ← hAj, hce, List.take_length])
        refine WC.exit ?_
        refine WX.thenE ?_
        refine WX.thenE ?_
        refine WX.blockHit ?_
        refine WX.blockN ?_
        refine WX.thenC ?_
        refine WC.region ?_
        refine WL.step (ok_move rfl) rfl ?_
        refine WL.step (ok_add ((k + 1 : Nat) : Int) rfl rfl (by omega) (by omega) (by omega)) rfl ?_
        refine WL.step (ok_assign rfl) rfl ?_
        refine WL.nil ?_
        exact WX.again (k + 1, va, cv3, o, W) (by repeat (first | exact trivial | refine ⟨rfl, ?_⟩)) ⟨hk3, hPN, ⟨_, hP3⟩, hE3⟩ (by show _ - (k + 1) < _ - k; omega)
    ·
      have hk : o.length ≤ k := by have := of_decide_eq_false hc71; omega
      refine WC.exit ?_
      refine WX.thenE ?_
      refine WX.thenE ?_
      refine WX.blockHit ?_
      refine WX.thenC ?_
      refine WC.seq ?_
      refine WC.region ?_
      refine WL.step (ok_move rfl) rfl ?_
      refine WL.step (ok_assign rfl) rfl ?_
      refine WL.nil ?_
      refine WX.thenC ?_
      refine WC.ret ?_
      exact WX.ret1 rfl rfl ⟨_, rfl, o, va, cv, rfl, (fun hne => by obtain ⟨b, cap', sp, e, hO, _⟩ := hP.od.some (List.length_pos_iff.2 hne); cases e; exact ⟨b, rfl, hO.rd0.append_left⟩), by rw [← hlk]; exact hPI.done hk, hE⟩

end Go.Proofs.Try
