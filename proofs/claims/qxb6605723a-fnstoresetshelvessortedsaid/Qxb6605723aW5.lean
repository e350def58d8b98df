/- Walks: search, find. -/
import Derived.Test.Qxb6605723aW4
set_option linter.unusedVariables false
set_option linter.unusedSimpArgs false
set_option maxRecDepth 100000
namespace Go.Proofs.Try
open Go.Sx Go.Pl

theorem searchPlace (rs : List CRun) (hd : Value) (g : Option Nat) (sb so : Nat) (fid : FuncId) (hfn : IsFn Try.prog fid) (cap : Array Value) (p : Slot → Bool) (w : World)
    (hSh : ShAt w sb so hd rs g) (hin : InOk Try.prog w fid cap p) (hm : Mono p (slots rs).flatten) (hne : ∀ run ∈ slots rs, run ≠ []) (hl : ∀ r ∈ rs, r.sl.length ≤ 4096) (hn : rs.length ≤ 1048576) :
    CallsV Try.prog 56 #[.pointer (some ⟨sb, so, none⟩), .func (.func fid) #[] cap] w fun v w' => ∃ r i : Nat, placeOf (lens (slots rs)) (cntF p (slots rs).flatten) = (r, i) ∧ v = .agg #[.int .i64 (r : Nat), .int .i64 (i : Nat)] ∧ Ext w w' := by
  obtain ⟨ha, hcap, rfl⟩ := hSh.runs.hdl
  refine calls_intro (args := [_, _]) Try.func56 rfl Try.ntmps56 rfl ?_
  refine WC.seq ?_
  refine WC.region ?_
  refine WL.box (c := [.pointer (some ⟨sb, so, none⟩)]) rfl rfl rfl ?_
  intro b2 w2 hb2 ho2 hk2 hs2
  refine WL.box (c := [.func (.func fid) #[] cap]) rfl rfl rfl ?_
  intro b3 w3 hb3 ho3 hk3 hs3
  refine WL.alloc zero92 rfl ?_
  intro b4 w4 hb4 ho4 hk4 hs4
  have hE4 : Ext w w4 := (hk2.trans hk3).trans hk4
  have hS4 := hSh.ext hE4
  have q2 := (ho2.ext hk3).ext hk4
  have q3 := ho3.ext hk4
  refine WL.nil ?_
  refine WX.thenC ?_
  refine WC.seq ?_
  refine WC.region ?_
  refine WL.step (ok_load rfl one47 (q2.cell 0)) rfl ?_
  refine WL.step (ok_nilCheck rfl) rfl ?_
  refine WL.step (ok_field rfl fld80_0) rfl ?_
  refine WL.step (ok_load rfl one45 (hS4.cell)) rfl ?_
  refine WL.step (ok_lenSlice rfl Try.underlying45) rfl ?_
  refine WL.step (ok_makeFunc rfl rfl) rfl ?_
  refine WL.call (ok_callF rfl isfn61) rfl (sortSearch rs.length (by omega) 62 isfn62 _ (p1 p (slots rs)) (fun i j hij hj => p1_mono hm hne i j hij (by rw [slots_length]; exact hj)) _ (fun w1 i hE hi => by
      have hS1 := hS4.ext hE
      have := searchRun rs _ g sb so b2 b3 fid hfn cap p w1 hS1.runs hS1.cell (q2.ext hE) (q3.ext hE) (hin.ext (hE4.trans hE)) i hi (hne _ (List.mem_map.2 ⟨_, List.getElem_mem hi, rfl⟩)) (hl _ (List.getElem_mem hi))
      have e : p1 p (slots rs) i = pl p rs[i].sl := by simp [p1, slots_get rs i hi]
      rw [e]; simpa using this)) ?_
  rintro v w13 ⟨r, rfl, hrn, hrf, hrt, hE13⟩
  have hE5 := hE4.trans hE13
  have hS5 := hSh.ext hE5
  have q2' := q2.ext hE13
  have q3' := q3.ext hE13
  have q4' := ho4.ext hE13
  refine WL.step (ok_assign rfl) rfl ?_
  refine WL.nil ?_
  refine WX.thenC ?_
  refine WC.seq ?_
  refine WC.seq ?_
  refine WC.region ?_
  refine WL.step (ok_move rfl) rfl ?_
  refine WL.step (ok_load rfl one47 (q2'.cell 0)) rfl ?_
  refine WL.step (ok_nilCheck rfl) rfl ?_
  refine WL.step (ok_field rfl fld80_0) rfl ?_
  refine WL.step (ok_load rfl one45 (hS5.cell)) rfl ?_
  refine WL.step (ok_lenSlice rfl Try.underlying45) rfl ?_
  refine WL.step (ok_eql rfl rfl) rfl ?_
  refine WL.nil ?_
  refine WX.thenC ?_
  refine WC.cond rfl (fun hc20 => ?_) (fun hc20 => ?_)
  ·
    have hre : r = rs.length := by have := of_decide_eq_true hc20; omega
    refine WC.seq ?_
    refine WC.region ?_
    refine WL.step (ok_move rfl) rfl ?_
    refine WL.step (build92 rfl) rfl ?_
    refine WL.store rfl rfl sz92 (q4') (by simp [Value.cells]) (by simp [Value.cells]) (by simp [Value.cells, Value.oneCell']) ?_
    intro wr3 hor3 hkr3 hsr3
    refine WL.nil ?_
    refine WX.thenC ?_
    refine WC.ret ?_
    refine WX.thenR ?_
    exact WX.retC (vs := [.int .i64 (r : Nat), .int .i64 0]) rfl rfl agg92 sz92 hor3.rd0 ⟨_, rfl, r, 0, by have := find_place_end hm hne (fun k hk => hrf k (by rw [slots_length] at hk; omega)); rw [this, slots_length, hre], rfl, hE5.over hkr3 (fun i hi e => by have := hk2.size; have := hk3.size; omega)⟩
  ·
    have hlt : r < rs.length := by have := of_decide_eq_false hc20; omega
    obtain ⟨gb, hcap', spare, heq, rfl, hO, hcl⟩ := hS5.runs.hd (by intro e; rw [e] at hlt; simp at hlt)
    cases heq
    have hlr := hl _ (List.getElem_mem hlt)
    have hmr : Mono p rs[r].sl := (List.pairwise_flatten.1 hm).1 _ (List.mem_map.2 ⟨_, List.getElem_mem hlt, rfl⟩)
    have hpr : p1 p (slots rs) r = true := hrt hlt
    refine WC.skip ?_
    refine WX.thenC ?_
    refine WC.seq ?_
    refine WC.region ?_
    refine WL.step (ok_load rfl one47 (q2'.cell 0)) rfl ?_
    refine WL.step (ok_nilCheck rfl) rfl ?_
    refine WL.step (ok_field rfl fld80_0) rfl ?_
    refine WL.step (ok_load rfl one45 (hS5.cell)) rfl ?_
    refine WL.step (ok_move rfl) rfl ?_
    refine WL.step (ok_indexS _ rfl rfl rfl (by omega) Try.underlying45 sz49) rfl ?_
    refine WL.step (ok_load rfl one49 (rd_hdr hO r hlt)) rfl ?_
    refine WL.alloc zero49 rfl ?_
    intro b6 w6 hb6 ho6 hk6 hs6
    refine WL.store rfl rfl sz49 (ho6) rfl (by simp [Value.cells, CRun.hdr]) (by simp [Value.cells, CRun.hdr, Value.oneCell']) ?_
    intro wr4 hor4 hkr4 hsr4
    have h6 : Own wr4 b6 49 [rs[r].hdr] := hor4
    have hE6 : Ext w wr4 := (hE5.trans hk6).over hkr4 (fun i hi e => by have := hE5.size; omega)
    have hS6 := hSh.ext hE6
    have q3b := hkr4.own (q3'.ext hk6) (by have := q3'.lt; omega)
    have q4b := hkr4.own (q4'.ext hk6) (by have := q4'.lt; omega)
    refine WL.nil ?_
    refine WX.thenC ?_
    refine WC.seq ?_
    refine WC.region ?_
    refine WL.step (ok_move rfl) rfl ?_
    refine WL.step (ok_load rfl one49 (h6.cell 0)) rfl ?_
    refine WL.step (ok_lenSlice rfl Try.underlying49) rfl ?_
    refine WL.step (ok_makeFunc rfl rfl) rfl ?_
    refine WL.call (ok_callF rfl isfn61) rfl (sortSearch rs[r].sl.length (by omega) 63 isfn63 _ (p2 p rs[r].sl) (p2_mono hmr) _ (fun w1 i hE hi => by
        have := searchIn rs[r] b3 b6 fid hfn cap p w1 ((hS6.ext hE).runs.run _ (List.getElem_mem hlt)) (q3b.ext hE) (h6.ext hE) (hin.ext (hE6.trans hE)) i hi
        have e : p2 p rs[r].sl i = p rs[r].sl[i] := by simp [p2, hi]
        rw [e]; simpa using this)) ?_
    rintro v w34 ⟨i, rfl, hin1, hif, hit1, hE34⟩
    have q4c := q4b.ext hE34
    refine WL.step (build92b rfl rfl) rfl ?_
    refine WL.store rfl rfl sz92 (q4c) (by simp [Value.cells]) (by simp [Value.cells]) (by simp [Value.cells, Value.oneCell']) ?_
    intro wr5 hor5 hkr5 hsr5
    refine WL.nil ?_
    refine WX.thenC ?_
    refine WC.ret ?_
    exact WX.retC (vs := [.int .i64 (r : Nat), .int .i64 (i : Nat)]) rfl rfl agg92 sz92 hor5.rd0 ⟨_, rfl, r, i, find_place hm hne (by rw [slots_length]; exact hlt) (slots_get rs r hlt) hrf hpr (p2_last (by simpa [p1, slots_get rs r hlt] using hpr) hin1 hif) hif (hit1 (p2_last (by simpa [p1, slots_get rs r hlt] using hpr) hin1 hif)), rfl, (hE6.trans hE34).over hkr5 (fun i hi e => by have := hk2.size; have := hk3.size; omega)⟩
theorem findW (rs : List CRun) (hd : Value) (g : Option Nat) (sb so : Nat) (k : List UInt8) (n : ByteArray) (hk : k.length = 20) (w : World)
    (hSh : ShAt w sb so hd rs g) (hm : Mono (geP k n.toList) (slots rs).flatten) (hne : ∀ run ∈ slots rs, run ≠ []) (hl : ∀ r ∈ rs, r.sl.length ≤ 4096) (hn : rs.length ≤ 1048576) :
    CallsV Try.prog 50 #[.pointer (some ⟨sb, so, none⟩), .agg (kc k).toArray, .string n] w fun v w' => ∃ r i : Nat, placeOf (lens (slots rs)) (cntF (geP k n.toList) (slots rs).flatten) = (r, i) ∧
      v = .tuple #[.agg #[.int .i64 (r : Nat), .int .i64 (i : Nat)], .bool (hit (slots rs) r i k n.toList)] ∧ Ext w w' := by
  obtain ⟨ha, hcap, rfl⟩ := hSh.runs.hdl
  refine calls_intro (args := [_, _, _]) Try.func50 rfl Try.ntmps50 rfl ?_
  refine WC.seq ?_
  refine WC.region ?_
  refine WL.box (c := kc k) rfl rfl rfl ?_
  intro b4 w4 hb4 ho4 hk4 hs4
  refine WL.box (c := [.string n]) rfl rfl rfl ?_
  intro b5 w5 hb5 ho5 hk5 hs5
  refine WL.alloc zero92 rfl ?_
  intro b6 w6 hb6 ho6 hk6 hs6
  have hE6 : Ext w w6 := (hk4.trans hk5).trans hk6
  have hS6 := hSh.ext hE6
  have q4 := (ho4.ext hk5).ext hk6
  have q5 := ho5.ext hk6
  refine WL.step (ok_assign rfl) rfl ?_
  refine WL.nil ?_
  refine WX.thenC ?_
  refine WC.seq ?_
  refine WC.region ?_
  refine WL.step (ok_move rfl) rfl ?_
  refine WL.step (ok_makeFunc rfl rfl) rfl ?_
  refine WL.call (ok_callF rfl isfn56) rfl (searchPlace rs _ g sb so 59 isfn59 _ (geP k n.toList) _ hS6 (fun w1 b off s hE hs hr => by
      have := findIn s hs b off b4 b5 k n hk w1 hr (q4.ext hE) (q5.ext hE)
      simpa [geP] using this) hm hne hl hn) ?_
  rintro v w12 ⟨r, i, hpl, rfl, hE12⟩
  refine WL.alloc zero92 rfl ?_
  intro b8 w8 hb8 ho8 hk8 hs8
  refine WL.store rfl rfl sz92 (ho8) (by simp [Value.cells]) (by simp [Value.cells]) (by simp [Value.cells, Value.oneCell']) ?_
  intro wr1 hor1 hkr1 hsr1
  have h8 : Own wr1 b8 92 [.int .i64 (r : Nat), .int .i64 (i : Nat)] := hor1
  have hEr : Ext w wr1 := ((hE6.trans hE12).trans hk8).over hkr1 (fun i hi e => by have := hE6.size; have := hE12.size; omega)
  have hSr := hSh.ext hEr
  have s1 := hE12.size
  have u4 : Own wr1 b4 33 (kc k) := hkr1.own ((q4.ext hE12).ext hk8) (by have := q4.lt; omega)
  have u5 : Own wr1 b5 9 [.string n] := hkr1.own ((q5.ext hE12).ext hk8) (by have := q5.lt; omega)
  have u6 := hkr1.own ((ho6.ext hE12).ext hk8) (by have := ho6.lt; omega)
  have hrle := placeOf_le (lens (slots rs)) (cntF (geP k n.toList) (slots rs).flatten)
  rw [hpl] at hrle
  simp only [lens, List.length_map, slots_length] at hrle
  refine WL.nil ?_
  refine WX.thenC ?_
  refine WC.seq ?_
  refine WC.seq ?_
  refine WC.drawE [] 6 [(0, true), (1, true), (2, true), (3, true), (4, true), (5, true), (6, true), (7, true)] mixed (by kernel_rfl) (fun hS => ?_)
  refine WO.quiet rfl (fun _ _ => ok_field rfl fld92_0) hS rfl ?_
  refine WO.quiet rfl (fun _ hw => ok_load rfl one3 (Kp.cell hw (h8.cell 0) (fun f => f))) hS rfl ?_
  refine WO.quiet rfl (fun _ _ => ok_move rfl) hS rfl ?_
  refine WO.quiet rfl (fun _ _ => ok_nilCheck rfl) hS rfl ?_
  refine WO.quiet rfl (fun _ _ => ok_field rfl fld80_0) hS rfl ?_
  refine WO.quiet rfl (fun _ hw => ok_load rfl one45 (Kp.cell hw (hSr.cell) (fun f => f))) hS rfl ?_
  refine WO.quiet rfl (fun _ _ => ok_lenSlice rfl Try.underlying45) hS rfl ?_
  refine WO.quiet rfl (fun _ _ => ok_eql rfl rfl) hS rfl ?_
  refine WO.nil ?_
  refine WX.thenC ?_
  refine WC.cond rfl (fun hc20 => ?_) (fun hc20 => ?_)
  ·
    have hre : r = rs.length := by have := of_decide_eq_true hc20; omega
    refine WC.seq ?_
    refine WC.region ?_
    refine WL.step (ok_loadN rfl agg92 sz92 rfl (h8.drew.rd0)) rfl ?_
    refine WL.store rfl rfl sz92 (u6.drew) (by simp [Value.cells]) (by simp [Value.cells]) (by simp [Value.cells, Value.oneCell']) ?_
    intro wr3 hor3 hkr3 hsr3
    refine WL.step (ok_assign rfl) rfl ?_
    refine WL.nil ?_
    refine WX.thenC ?_
    refine WC.ret ?_
    refine WX.thenR ?_
    exact WX.retCT (vs := [.int .i64 (r : Nat), .int .i64 (i : Nat)]) rfl rfl rfl agg92 sz92 hor3.rd0 ⟨_, rfl, r, i, hpl, by simp [hit, slots, hre], (hEr.trans (Kp.drew _ _)).over hkr3 (fun i hi e => by have := hk4.size; have := hk5.size; omega)⟩
  ·
    have hlt : r < rs.length := by have := of_decide_eq_false hc20; omega
    obtain ⟨gb, hcap', spare, heq, rfl, hO, hcl⟩ := hSr.runs.hd (by intro e; rw [e] at hlt; simp at hlt)
    cases heq
    have hil : i < rs[r].sl.length := by have := placeOf_snd (lens (slots rs)) (cntF (geP k n.toList) (slots rs).flatten) rs[r].sl.length (by rw [hpl]; simp [lens, slots, hlt]); rw [hpl] at this; exact this
    have hrun := hSr.runs.run rs[r] (List.getElem_mem hlt)
    have hsk := (hrun.1 _ (List.getElem_mem hil)).1
    have hslot : Rd wr1.drew.drew rs[r].b (0 + i * 23) rs[r].sl[i].cells := hrun.slot i hil
    have hb6 : rs[r].b ≠ b6 := by have := hSh.runs.lt rs[r].b (by simp only [fp, List.mem_append, List.mem_map]; exact .inr ⟨_, List.getElem_mem hlt, rfl⟩); have := hk4.size; have := hk5.size; omega
    have hhit : hit (slots rs) r i k n.toList = (decide (rs[r].sl[i].key = k) && decide (rs[r].sl[i].name.toList = n.toList)) := by simp [hit, slots_get rs r hlt, hil]
    refine WC.skip ?_
    refine WX.thenC ?_
    refine WC.seq ?_
    refine WC.drawE [] 8 [(0, true), (1, true), (2, true), (3, true), (4, true), (5, true), (6, true), (7, true), (8, true), (9, true), (10, true), (11, true)] mixed (by kernel_rfl) (fun hS => ?_)
    refine WO.quiet rfl (fun _ _ => ok_move rfl) hS rfl ?_
    refine WO.quiet rfl (fun _ _ => ok_nilCheck rfl) hS rfl ?_
    refine WO.quiet rfl (fun _ _ => ok_field rfl fld80_0) hS rfl ?_
    refine WO.quiet rfl (fun _ hw => ok_load rfl one45 (Kp.cell hw (hSr.cell) (fun f => f))) hS rfl ?_
    refine WO.quiet rfl (fun _ _ => ok_field rfl fld92_0) hS rfl ?_
    refine WO.quiet rfl (fun _ hw => ok_load rfl one3 (Kp.cell hw (h8.drew.cell 0) (fun f => f))) hS rfl ?_
    refine WO.quiet rfl (fun _ _ => ok_indexS _ rfl rfl rfl (by omega) Try.underlying45 sz49) hS rfl ?_
    refine WO.quiet rfl (fun _ hw => ok_load rfl one49 (Kp.cell hw (rd_hdr hO r hlt) (fun f => f))) hS rfl ?_
    refine WO.quiet rfl (fun _ _ => ok_field rfl fld92_1) hS rfl ?_
    refine WO.quiet rfl (fun _ hw => ok_load rfl one3 (Kp.cell hw (h8.drew.cell 1) (fun f => f))) hS rfl ?_
    refine WO.quiet rfl (fun _ _ => ok_indexS _ rfl rfl rfl (by omega) Try.underlying49 sz54) hS rfl ?_
    refine WO.quiet rfl (fun _ _ => ok_assign rfl) hS rfl ?_
    refine WO.nil ?_
    refine WX.thenC ?_
    refine WC.seq ?_
    refine WC.draw (Kp (· = b6) wr1.drew.drew) [] 15 [(0, true), (1, true), (2, true), (3, true), (4, true), (5, true), (6, true), (7, true), (8, true), (9, true), (10, true), (11, true), (12, true), (13, true), (14, true), (15, true), (16, true), (17, false), (18, true)] mixed (by kernel_rfl) ?_
    have hS : Kp (· = b6) wr1.drew.drew wr1.drew.drew.drew := Kp.drew _ _
    refine WO.quiet rfl (fun _ hw => ok_loadN rfl agg92 sz92 rfl (Rd.kp (h8.drew.drew.rd0) hw (by omega))) hS rfl ?_
    refine WO.quiet rfl (fun _ _ => ok_move rfl) hS rfl ?_
    refine WO.quiet rfl (fun _ _ => ok_nilCheck rfl) hS rfl ?_
    refine WO.quiet rfl (fun _ _ => ok_field rfl fld54_0) hS rfl ?_
    refine WO.quiet rfl (fun _ _ => ok_field rfl fld35_0) hS rfl ?_
    refine WO.quiet rfl (fun _ hw => ok_loadN rfl agg33 sz33 (by simp [hsk]) (Rd.kp (rd_skey hslot) hw hb6)) hS rfl ?_
    refine WO.quiet rfl (fun _ hw => ok_loadN rfl agg33 sz33 (by simp [hk]) (Rd.kp (u4.drew.drew.rd0) hw (by omega))) hS rfl ?_
    refine WO.quiet rfl (fun _ _ => ok_eqlK rfl rfl key33 hsk hk) hS rfl ?_
    refine WO.quiet rfl (fun _ _ => ok_move rfl) hS rfl ?_
    refine WO.splitB 41 rfl (fun hb41 => ?_) (fun hb41 => ?_)
    ·
      have k1 := of_decide_eq_true hb41
      refine WO.quietOn rfl rfl rfl (fun _ _ => ok_move rfl) hS rfl ?_
      refine WO.quietOn rfl rfl rfl (fun _ _ => ok_nilCheck rfl) hS rfl ?_
      refine WO.quietOn rfl rfl rfl (fun _ _ => ok_field rfl fld54_0) hS rfl ?_
      refine WO.quietOn rfl rfl rfl (fun _ _ => ok_field rfl fld35_1) hS rfl ?_
      refine WO.quietOn rfl rfl rfl (fun _ hw => ok_load rfl one9 (Kp.cell hw (rd_sname hslot hsk) hb6)) hS rfl ?_
      refine WO.quietOn rfl rfl rfl (fun _ hw => ok_load rfl one9 (Kp.cell hw (u5.drew.drew.cell 0) (by omega))) hS rfl ?_
      refine WO.quietOn rfl rfl rfl (fun _ _ => ok_eqlS rfl rfl) hS rfl ?_
      refine WO.quiet rfl (fun _ _ => ok_pickT rfl rfl) hS rfl ?_
      refine WO.store rfl rfl rfl sz92 (u6.drew.drew.drew) (by simp [Value.cells]) (by simp [Value.cells]) (by simp [Value.cells, Value.oneCell']) ?_
      intro wr5 hor5 hkr5 hsr5
      refine ⟨(fun _ => hS.trans hkr5), ?_⟩
      have hS := hS.trans hkr5
      refine WO.quiet rfl (fun _ _ => ok_assign rfl) hS rfl ?_
      refine WO.nil ?_
      refine WX.thenC ?_
      refine WC.ret ?_
      exact WX.retCT (vs := [.int .i64 (r : Nat), .int .i64 (i : Nat)]) rfl rfl rfl agg92 sz92 hor5.rd0 ⟨_, rfl, r, i, hpl, by rw [hhit, decide_eq_true k1]; rfl, (((hEr.trans (Kp.drew _ _)).trans (Kp.drew _ _)).trans (Kp.drew _ _)).over hkr5 (fun i hi e => by have := hk4.size; have := hk5.size; omega)⟩
    ·
      have k1 := of_decide_eq_false hb41
      refine WO.off rfl rfl rfl rfl hS rfl ?_
      refine WO.off rfl rfl rfl rfl hS rfl ?_
      refine WO.off rfl rfl rfl rfl hS rfl ?_
      refine WO.off rfl rfl rfl rfl hS rfl ?_
      refine WO.off rfl rfl rfl rfl hS rfl ?_
      refine WO.off rfl rfl rfl rfl hS rfl ?_
      refine WO.off rfl rfl rfl rfl hS rfl ?_
      refine WO.quiet rfl (fun _ _ => ok_pickF rfl rfl) hS rfl ?_
      refine WO.store rfl rfl rfl sz92 (u6.drew.drew.drew) (by simp [Value.cells]) (by simp [Value.cells]) (by simp [Value.cells, Value.oneCell']) ?_
      intro wr5 hor5 hkr5 hsr5
      refine ⟨(fun _ => hS.trans hkr5), ?_⟩
      have hS := hS.trans hkr5
      refine WO.quiet rfl (fun _ _ => ok_assign rfl) hS rfl ?_
      refine WO.nil ?_
      refine WX.thenC ?_
      refine WC.ret ?_
      exact WX.retCT (vs := [.int .i64 (r : Nat), .int .i64 (i : Nat)]) rfl rfl rfl agg92 sz92 hor5.rd0 ⟨_, rfl, r, i, hpl, by rw [hhit, decide_eq_false k1]; rfl, (((hEr.trans (Kp.drew _ _)).trans (Kp.drew _ _)).trans (Kp.drew _ _)).over hkr5 (fun i hi e => by have := hk4.size; have := hk5.size; omega)⟩

end Go.Proofs.Try
