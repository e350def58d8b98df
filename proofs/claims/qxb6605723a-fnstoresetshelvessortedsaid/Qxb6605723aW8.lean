/- Walks: put, and the exported words of a shelf. -/
import Derived.Test.Qxb6605723aW6
import Derived.Test.Qxb6605723aW7
set_option linter.unusedVariables false
set_option linter.unusedSimpArgs false
set_option maxRecDepth 100000
namespace Go.Sx
open Go.Pl

/-- What a put makes of the runs. -/
def putL (runs : List (List Slot)) (e : Slot) : List (List Slot) :=
  let p := placeOf (lens runs) (cntF (geP e.key e.name.toList) runs.flatten)
  if hit runs p.1 p.2 e.key e.name.toList then runs.set p.1 ((runs.getD p.1 []).set p.2 e) else insAt runs p.1 p.2 e

theorem enc_set {sl : List Slot} (hs : OkS sl) {e : Slot} (he : e.cells.length = 23) (sp : List Value) (i : Nat) (hi : i < sl.length) : splice (encS sl ++ sp) (0 + i * 23) e.cells = encS (sl.set i e) ++ sp := by
  have h1 : sl = sl.take i ++ sl[i] :: sl.drop (i + 1) := by rw [List.getElem_cons_drop, List.take_append_drop]
  have h2 : sl.set i e = sl.take i ++ e :: sl.drop (i + 1) := List.set_eq_take_append_cons_drop.trans (by rw [if_pos hi])
  have hl : (encS (sl.take i)).length = i * 23 := by rw [encS_length (hs.take i), List.length_take, Nat.min_eq_left (by omega)]
  have hl2 : (sl[i]).cells.length = 23 := Slot.len hs _ (List.getElem_mem hi)
  rw [h2]
  conv => lhs; rw [h1]
  rw [encS_append, encS_cons, encS_append, encS_cons, List.append_assoc, splice_mid _ _ _ _ (by rw [hl]; omega)]
  rw [show e.cells.length = sl[i].cells.length by rw [he, hl2], List.append_assoc]
  simp

theorem splice_all (c vs : List Value) (h : c.length = vs.length) : splice c 0 vs = vs := by
  unfold splice
  rw [Nat.zero_add, ← h, List.drop_length]
  simp

/-- A shelf in a block of its own, all of it at `lo` or above. -/
def ShL (lo : Nat) (w : World) (sb : Nat) (runs : List (List Slot)) : Prop :=
  ∃ hd rs g, Own w sb 80 [hd] ∧ RunsAt w hd rs g ∧ sb ∉ fp g rs ∧ slots rs = runs ∧ lo ≤ sb ∧ ∀ b ∈ fp g rs, lo ≤ b
theorem ShL.ext {lo sb : Nat} {w w' : World} {runs : List (List Slot)} (h : ShL lo w sb runs) (k : Ext w w') : ShL lo w' sb runs := by
  obtain ⟨hd, rs, g, h1, h2, h3, h4, h5, h6⟩ := h
  exact ⟨hd, rs, g, h1.ext k, h2.ext k, h3, h4, h5, h6⟩
theorem ShL.at {lo sb : Nat} {w : World} {runs : List (List Slot)} (h : ShL lo w sb runs) : ∃ hd rs g, ShAt w sb 0 hd rs g ∧ slots rs = runs := by
  obtain ⟨hd, rs, g, h1, h2, h3, h4, h5, h6⟩ := h
  exact ⟨hd, rs, g, ⟨by rw [h1.cell]; rfl, h2⟩, h4⟩

end Go.Sx
namespace Go.Proofs.Try
open Go.Sx Go.Pl

set_option maxHeartbeats 1000000 in
theorem putW (rs : List CRun) (hd : Value) (g : Option Nat) (sb so : Nat) (e0 : TypeId) (c : List Value) (e : Slot) (w : World)
    (hO : Own w sb e0 c) (hc : c[so]? = some hd) (hR : RunsAt w hd rs g) (hsb : sb ∉ fp g rs) (he : OkSl e) (hm : Mono (geP e.key e.name.toList) (slots rs).flatten) (hne : ∀ run ∈ slots rs, run ≠ [])
    (hl : ∀ r ∈ rs, r.sl.length ≤ 128) (hn : rs.length ≤ 1048576) :
    CallsV Try.prog 47 #[.pointer (some ⟨sb, so, none⟩), .agg e.cells.toArray] w fun v w' => v = .tuple #[] ∧ ∃ hd' rs' g',
      Own w' sb e0 (c.set so hd') ∧ RunsAt w' hd' rs' g' ∧ slots rs' = putL (slots rs) e ∧ Kp (fun k => k = sb ∨ k ∈ fp g rs) w w' ∧ (∀ b ∈ fp g' rs', b ∈ fp g rs ∨ w.heap.size ≤ b) := by
  obtain ⟨ha, hcap, rfl⟩ := hR.hdl
  have hec : e.cells.length = 23 := Slot.len (l := [e]) (by intro s hs; simp at hs; subst hs; exact he) e (by simp)
  have hso := lt_of_get hc
  have hsbl := hO.lt
  have hSh : ShAt w sb so _ rs g := ⟨by rw [hO.cell]; exact hc, hR⟩
  refine calls_intro (args := [_, _]) Try.func47 rfl Try.ntmps47 rfl ?_
  refine WC.seq ?_
  refine WC.region ?_
  refine WL.box (c := e.cells) rfl rfl rfl ?_
  intro b3 w3 hb3 ho3 hk3 hs3
  refine WL.nil ?_
  refine WX.thenC ?_
  refine WC.seq ?_
  refine WC.region ?_
  refine WL.step (ok_move rfl) rfl ?_
  refine WL.step (ok_field rfl fld54_0) rfl ?_
  refine WL.step (ok_field rfl fld35_0) rfl ?_
  refine WL.step (ok_loadN rfl agg33 sz33 (by simp [he.1]) (rd_skey ho3.rd0)) rfl ?_
  refine WL.step (ok_field rfl fld54_0) rfl ?_
  refine WL.step (ok_field rfl fld35_1) rfl ?_
  refine WL.step (ok_load rfl one9 (rd_sname ho3.rd0 he.1)) rfl ?_
  refine WL.call (ok_callF rfl isfn50) rfl (findW rs _ g sb so e.key e.name he.1 _ (hSh.ext hk3) hm hne (fun r hr => Nat.le_trans (hl r hr) (by decide)) hn) ?_
  rintro v w14 ⟨r, i, hpl, rfl, hE14⟩
  refine WL.step (ok_move rfl) rfl ?_
  refine WL.step (ok_extract rfl rfl) rfl ?_
  refine WL.step (ok_extract rfl rfl) rfl ?_
  refine WL.alloc zero92 rfl ?_
  intro b4 w4 hb4 ho4 hk4 hs4
  refine WL.store rfl rfl sz92 (ho4) (by simp [Value.cells]) (by simp [Value.cells]) (by simp [Value.cells, Value.oneCell']) ?_
  intro wr1 hor1 hkr1 hsr1
  have z3 := hk3.size
  have z14 := hE14.size
  have z4 := hk4.size
  have h4 : Own wr1 b4 92 [.int .i64 (r : Nat), .int .i64 (i : Nat)] := hor1
  have hEr : Ext w wr1 := ((hk3.trans hE14).trans hk4).over hkr1 (fun i hi e => by omega)
  have h3 : Own wr1 b3 54 e.cells := hkr1.own ((ho3.ext hE14).ext hk4) (by have := ho3.lt; omega)
  have hSr := hSh.ext hEr
  have hOr := hO.ext hEr
  have hRr := hR.ext hEr
  have hrle : r ≤ rs.length := by have := placeOf_le (lens (slots rs)) (cntF (geP e.key e.name.toList) (slots rs).flatten); rw [hpl] at this; simpa [lens, slots] using this
  have hil : ∀ (h : r < rs.length), i < rs[r].sl.length := by intro h; have := placeOf_snd (lens (slots rs)) (cntF (geP e.key e.name.toList) (slots rs).flatten) rs[r].sl.length (by rw [hpl]; simp [lens, slots, h]); rw [hpl] at this; exact this
  have hb3l := h3.lt
  have hb4l := h4.lt
  refine WL.step (ok_assign rfl) rfl ?_
  refine WL.nil ?_
  refine WX.thenC ?_
  refine WC.seq ?_
  refine WC.seq ?_
  refine WC.region ?_
  refine WL.step (ok_move rfl) rfl ?_
  refine WL.nil ?_
  refine WX.thenC ?_
  refine WC.cond rfl (fun hc17 => ?_) (fun hc17 => ?_)
  ·
    have hlt : r < rs.length := by rcases Nat.lt_or_ge r rs.length with h | h; exact h; simp [hit, slots, h] at hc17
    obtain ⟨gb, hcap', spg, heq, rfl, hOg, hcl⟩ := hRr.hd (by intro e; rw [e] at hlt; simp at hlt)
    cases heq
    have hi := hil hlt
    have hrun := hRr.run rs[r] (List.getElem_mem hlt)
    obtain ⟨spare, hRo, hRl, hRc⟩ := hrun.own
    refine WC.seq ?_
    refine WC.drawE [12] 8 [(0, true), (1, true), (2, true), (3, true), (4, true), (5, true), (6, true), (7, true), (8, true), (9, true), (10, true), (11, true), (12, false)] mixed (by kernel_rfl) (fun hS => ?_)
    refine WO.quiet rfl (fun _ _ => ok_move rfl) hS rfl ?_
    refine WO.quiet rfl (fun _ _ => ok_nilCheck rfl) hS rfl ?_
    refine WO.quiet rfl (fun _ _ => ok_field rfl fld80_0) hS rfl ?_
    refine WO.quiet rfl (fun _ hw => ok_load rfl one45 (Kp.cell hw (hSr.cell) (fun f => f))) hS rfl ?_
    refine WO.quiet rfl (fun _ _ => ok_field rfl fld92_0) hS rfl ?_
    refine WO.quiet rfl (fun _ hw => ok_load rfl one3 (Kp.cell hw (h4.cell 0) (fun f => f))) hS rfl ?_
    refine WO.quiet rfl (fun _ _ => ok_indexS _ rfl rfl rfl (by omega) Try.underlying45 sz49) hS rfl ?_
    refine WO.quiet rfl (fun _ hw => ok_load rfl one49 (Kp.cell hw (rd_hdr hOg r hlt) (fun f => f))) hS rfl ?_
    refine WO.quiet rfl (fun _ _ => ok_field rfl fld92_1) hS rfl ?_
    refine WO.quiet rfl (fun _ hw => ok_load rfl one3 (Kp.cell hw (h4.cell 1) (fun f => f))) hS rfl ?_
    refine WO.quiet rfl (fun _ hw => ok_loadN rfl agg54 sz54 hec (Rd.kp (h3.rd0) hw (fun f => f))) hS rfl ?_
    refine WO.quiet rfl (fun _ _ => ok_indexS i rfl rfl rfl (by omega) Try.underlying49 sz54) hS rfl ?_
    refine WO.store rfl rfl rfl sz54 (hRo.drew) (by simpa [Value.cells] using hec) (by simp only [Value.cells, List.length_append, encS_length hrun.1, hec]; omega) (Slot.one he) ?_
    intro wr3 hor3 hkr3 hsr3
    refine ⟨(inL rfl), ?_⟩
    have hor3' : Own wr3 rs[r].b 54 (encS (rs[r].sl.set i e) ++ spare) := by
      have := hor3
      simp only [Value.cells] at this
      rw [enc_set hrun.1 hec spare i hi] at this
      exact this
    have e2 : sb ≠ rs[r].b := fun h => hsb (mem_fp.2 (.inr ⟨_, List.getElem_mem hlt, h.symm⟩))
    have e1 : gb ≠ rs[r].b := (nodup_fp hR.nodup hlt).1 gb rfl
    have hK : Kp (fun k => k = sb ∨ k = gb ∨ k = rs[r].b) w wr3 := ((Kp.of_ext hEr).trans (Kp.drew _ _)).over hkr3 (fun k _ q => .inr (.inr q))
    have hCh : (⟨rs[r].b, rs[r].cap, rs[r].sl.set i e⟩ : CRun).hdr = rs[r].hdr := by simp [CRun.hdr]
    have hsok : OkS (rs[r].sl.set i e) := fun s hs => by rcases List.mem_or_eq_of_mem_set hs with h | rfl; exact hrun.1 s h; exact he
    have hslr : (slots rs)[r]? = some rs[r].sl := slots_get rs r hlt
    refine WO.nil ?_
    refine WX.thenC ?_
    refine WC.ret ?_
    refine WX.thenR ?_
    refine WX.ret0 rfl ⟨_, rfl, rfl, .slice (some ⟨gb, 0, none⟩) rs.length hcap, rs.set r ⟨rs[r].b, rs[r].cap, rs[r].sl.set i e⟩, some gb, ?_, ?_, ?_, ?_, ?_⟩
    · rw [set_same c so _ hc]; exact hkr3.own hOr.drew e2
    · refine asm_set hR hlt _ hK hsb rfl ?_ hcl (RunOk.mk hsok hor3' ?_ ?_) (.inl rfl)
      · rw [hCh]
        have : rs[r].hdr = (rs.map CRun.hdr)[r]'(by simpa using hlt) := by simp
        rw [this, List.set_getElem_self]
        exact hkr3.own hOg.drew e1
      · rw [encS_length hsok, List.length_set, ← encS_length hrun.1]; exact hRl
      · rw [List.length_set]; exact hRc
    · unfold putL
      simp only [hpl]
      rw [if_pos hc17]
      have hgd : (slots rs).getD r [] = rs[r].sl := by simp [List.getD, hslr]
      rw [hgd]
      simp [slots, List.map_set]
    · exact hK.mono (fun k _ q => q.elim .inl (fun q => .inr (q.elim (fun q => mem_fp.2 (.inl (by rw [q]))) (fun q => mem_fp.2 (.inr ⟨_, List.getElem_mem hlt, q.symm⟩)))))
    · intro b hb
      rcases mem_fp.1 hb with h | ⟨x, hx, rfl⟩
      · exact .inl (mem_fp.2 (.inl h))
      · rcases List.mem_or_eq_of_mem_set hx with h | h
        · exact .inl (mem_fp.2 (.inr ⟨x, h, rfl⟩))
        · subst h
          exact .inl (mem_fp.2 (.inr ⟨_, List.getElem_mem hlt, rfl⟩))
  ·
    refine WC.skip ?_
    refine WX.thenC ?_
    refine WC.region ?_
    refine WL.step (ok_move rfl) rfl ?_
    refine WL.step (ok_loadN rfl agg92 sz92 rfl (h4.rd0)) rfl ?_
    refine WL.step (ok_loadN rfl agg54 sz54 hec (h3.rd0)) rfl ?_
    refine WL.call (ok_callF rfl isfn51) rfl (insertW rs _ g sb so e0 c r i e _ hOr hc hRr hsb he (fun h => Nat.le_of_lt (hil h)) hrle hl hn) ?_
    rintro v w33 ⟨rfl, hd', rs', g', q1, q2, q3, q4, q5⟩
    refine WL.nil ?_
    refine WX.end0 rfl ⟨_, rfl, rfl, hd', rs', g', q1, q2, ?_, (Kp.of_ext hEr).trans q4, ?_⟩
    · rw [q3]
      unfold putL
      simp only [hpl]
      rw [if_neg (by rw [hc17]; decide)]
    · intro b hb
      rcases q5 b hb with h | h
      · exact .inl h
      · exact .inr (Nat.le_trans hEr.size h)

/-- Put, over a shelf of its own. -/
theorem putS {lo sb : Nat} {runs : List (List Slot)} (e : Slot) (w : World) (hS : ShL lo w sb runs) (hlo : lo ≤ w.heap.size) (he : OkSl e) (hm : Mono (geP e.key e.name.toList) runs.flatten) (hne : ∀ run ∈ runs, run ≠ [])
    (hl : ∀ r ∈ runs, r.length ≤ 128) (hn : runs.length ≤ 1048576) :
    CallsV Try.prog 47 #[.pointer (some ⟨sb, 0, none⟩), .agg e.cells.toArray] w fun v w' => v = .tuple #[] ∧ ShL lo w' sb (putL runs e) ∧ Kp (lo ≤ ·) w w' := by
  obtain ⟨hd, rs, g, h1, h2, h3, rfl, h5, h6⟩ := hS
  refine (putW rs hd g sb 0 80 [hd] e w h1 rfl h2 h3 he hm hne (fun r hr => hl r.sl (by simp only [slots, List.mem_map]; exact ⟨r, hr, rfl⟩)) (by rw [slots_length] at hn; exact hn)).mono ?_
  rintro v w' ⟨rfl, hd', rs', g', q1, q2, q3, q4, q5⟩
  have hsl := h1.lt
  refine ⟨rfl, ⟨hd', rs', g', q1, q2, ?_, q3, h5, ?_⟩, q4.mono ?_⟩
  · intro hb
    rcases q5 _ hb with h | h
    · exact h3 h
    · omega
  · intro b hb
    rcases q5 _ hb with h | h
    · exact h6 b h
    · omega
  · rintro k _ (rfl | h)
    · exact h5
    · exact h6 k h

theorem insertS {lo sb : Nat} {runs : List (List Slot)} (r i : Nat) (e : Slot) (w : World) (hS : ShL lo w sb runs) (hlo : lo ≤ w.heap.size) (he : OkSl e) (hpos : ∀ (h : r < runs.length), i ≤ runs[r].length) (hrle : r ≤ runs.length)
    (hl : ∀ r ∈ runs, r.length ≤ 128) (hn : runs.length ≤ 1048576) :
    CallsV Try.prog 51 #[.pointer (some ⟨sb, 0, none⟩), .agg #[.int .i64 (r : Nat), .int .i64 (i : Nat)], .agg e.cells.toArray] w fun v w' => v = .tuple #[] ∧ ShL lo w' sb (insAt runs r i e) ∧ Kp (lo ≤ ·) w w' := by
  obtain ⟨hd, rs, g, h1, h2, h3, rfl, h5, h6⟩ := hS
  refine (insertW rs hd g sb 0 80 [hd] r i e w h1 rfl h2 h3 he (fun h => by have := hpos (by rw [slots_length]; exact h); simpa [slots] using this) (by rw [slots_length] at hrle; exact hrle) (fun r hr => hl r.sl (by simp only [slots, List.mem_map]; exact ⟨r, hr, rfl⟩)) (by rw [slots_length] at hn; exact hn)).mono ?_
  rintro v w' ⟨rfl, hd', rs', g', q1, q2, q3, q4, q5⟩
  have hsl := h1.lt
  refine ⟨rfl, ⟨hd', rs', g', q1, q2, ?_, q3, h5, ?_⟩, q4.mono ?_⟩
  · intro hb
    rcases q5 _ hb with h | h
    · exact h3 h
    · omega
  · intro b hb
    rcases q5 _ hb with h | h
    · exact h6 b h
    · omega
  · rintro k _ (rfl | h)
    · exact h5
    · exact h6 k h

theorem shelfPut {lo sb : Nat} {runs : List (List Slot)} (k : List UInt8) (n : ByteArray) (vl : List UInt8) (a : Option Addr) (cap : Nat) (hk : k.length = 20) (hn : n.size ≤ 1048576) (hv : vl.length ≤ 1048576) (w : World) (hB : BytesAt w a vl)
    (hSh : ShL lo w sb runs) (hlo : lo ≤ w.heap.size) (hm : Mono (geP k n.toList) runs.flatten) (hne : ∀ run ∈ runs, run ≠ []) (hl : ∀ r ∈ runs, r.length ≤ 128) (hrn : runs.length ≤ 1048576) :
    CallsV Try.prog 31 #[.pointer (some ⟨sb, 0, none⟩), .agg (kc k ++ [Value.string n, .slice a vl.length cap]).toArray] w fun v w' => v = .tuple #[] ∧ ShL lo w' sb (putL runs ⟨k, n, .slice a vl.length cap, (term n.data.toList vl : Nat)⟩) ∧ Kp (lo ≤ ·) w w' := by
  have hel : (kc k ++ [Value.string n, .slice a vl.length cap]).length = 22 := by simp [hk]
  refine calls_intro (args := [_, _]) Try.func31 rfl Try.ntmps31 rfl ?_
  refine WC.seq ?_
  refine WC.region ?_
  refine WL.box (c := kc k ++ [Value.string n, .slice a vl.length cap]) rfl rfl rfl ?_
  intro b3 w3 hb3 ho3 hk3 hs3
  refine WL.nil ?_
  refine WX.thenC ?_
  refine WC.drawE [5] 4 [(0, true), (1, true), (2, true), (3, false), (4, true), (5, false)] mixed (by kernel_rfl) (fun hS => ?_)
  refine WO.quiet rfl (fun _ _ => ok_move rfl) hS rfl ?_
  refine WO.quiet rfl (fun _ hw => ok_loadN rfl agg35 sz35 hel (Rd.kp (ho3.rd0) hw (fun f => f))) hS rfl ?_
  refine WO.quiet rfl (fun _ hw => ok_loadN rfl agg35 sz35 hel (Rd.kp (ho3.rd0) hw (fun f => f))) hS rfl ?_
  refine WO.loudCall rfl (ok_callF rfl isfn48) rfl (termOf k n vl a cap hk hn hv _ ((hB.ext hk3).ext (Kp.drew _ _))) ?_
  rintro v w7 ⟨rfl, hE7⟩
  refine ⟨(fun _ => hS.trans hE7), ?_⟩
  have hS := hS.trans hE7
  have hEw : Ext w w7 := (hk3.trans (Kp.drew _ _)).trans hE7
  refine WO.quiet rfl (fun _ _ => build54 hel rfl rfl) hS rfl ?_
  refine WO.rew 8 (.agg (Slot.cells ⟨k, n, .slice a vl.length cap, (term n.data.toList vl : Nat)⟩).toArray) rfl (by simp [Slot.cells]) ?_
  refine WO.loudCall rfl (ok_callF rfl isfn47) rfl (putS ⟨k, n, .slice a vl.length cap, (term n.data.toList vl : Nat)⟩ _ (hSh.ext hEw) (Nat.le_trans hlo hEw.size) ⟨hk, rfl⟩ hm hne hl hrn) ?_
  rintro v w9 ⟨rfl, hS9, hK9⟩
  refine ⟨(inL rfl), ?_⟩
  refine WO.nil ?_
  exact WX.end0 rfl ⟨_, rfl, rfl, hS9, (Kp.of_ext hEw).trans hK9⟩
theorem shelfFind {lo sb : Nat} {runs : List (List Slot)} (k : List UInt8) (n : ByteArray) (hk : k.length = 20) (w : World)
    (hSh : ShL lo w sb runs) (hm : Mono (geP k n.toList) runs.flatten) (hne : ∀ run ∈ runs, run ≠ []) (hl : ∀ r ∈ runs, r.length ≤ 4096) (hn : runs.length ≤ 1048576) :
    CallsV Try.prog 38 #[.pointer (some ⟨sb, 0, none⟩), .agg (kc k).toArray, .string n] w fun v w' => ∃ r i : Nat, placeOf (lens runs) (cntF (geP k n.toList) runs.flatten) = (r, i) ∧
      v = .tuple #[.int .i64 (r : Nat), .int .i64 (i : Nat), .bool (hit runs r i k n.toList)] ∧ Ext w w' := by
  obtain ⟨hd, rs, g, hSa, rfl⟩ := hSh.at
  refine calls_intro (args := [_, _, _]) Try.func38 rfl Try.ntmps38 rfl ?_
  refine WC.seq ?_
  refine WC.region ?_
  refine WL.box (c := kc k) rfl rfl rfl ?_
  intro b4 w4 hb4 ho4 hk4 hs4
  refine WL.step (ok_assign rfl) rfl ?_
  refine WL.step (ok_assign rfl) rfl ?_
  refine WL.step (ok_assign rfl) rfl ?_
  refine WL.nil ?_
  refine WX.thenC ?_
  refine WC.seq ?_
  refine WC.region ?_
  refine WL.step (ok_move rfl) rfl ?_
  refine WL.step (ok_loadN rfl agg33 sz33 (by simp [hk]) (ho4.rd0)) rfl ?_
  refine WL.step (ok_move rfl) rfl ?_
  refine WL.call (ok_callF rfl isfn50) rfl (findW rs _ g sb 0 k n hk _ (hSa.ext hk4) hm hne (fun r hr => hl r.sl (by simp only [slots, List.mem_map]; exact ⟨r, hr, rfl⟩)) (by rw [slots_length] at hn; exact hn)) ?_
  rintro v w15 ⟨r, i, hpl, rfl, hE15⟩
  refine WL.step (ok_move rfl) rfl ?_
  refine WL.step (ok_extract rfl rfl) rfl ?_
  refine WL.step (ok_extract rfl rfl) rfl ?_
  refine WL.alloc zero92 rfl ?_
  intro b9 w9 hb9 ho9 hk9 hs9
  refine WL.store rfl rfl sz92 (ho9) (by simp [Value.cells]) (by simp [Value.cells]) (by simp [Value.cells, Value.oneCell']) ?_
  intro wr1 hor1 hkr1 hsr1
  have h9 : Own wr1 b9 92 [.int .i64 (r : Nat), .int .i64 (i : Nat)] := hor1
  have hEr : Ext w wr1 := ((hk4.trans hE15).trans hk9).over hkr1 (fun i hi e => by have := hk4.size; have := hE15.size; omega)
  refine WL.step (ok_assign rfl) rfl ?_
  refine WL.nil ?_
  refine WX.thenC ?_
  refine WC.seq ?_
  refine WC.drawE [] 5 [(0, true), (1, true), (2, true), (3, true), (4, true), (5, true), (6, true), (7, true)] mixed (by kernel_rfl) (fun hS => ?_)
  refine WO.quiet rfl (fun _ _ => ok_field rfl fld92_0) hS rfl ?_
  refine WO.quiet rfl (fun _ hw => ok_load rfl one3 (Kp.cell hw (h9.cell 0) (fun f => f))) hS rfl ?_
  refine WO.quiet rfl (fun _ _ => ok_field rfl fld92_1) hS rfl ?_
  refine WO.quiet rfl (fun _ hw => ok_load rfl one3 (Kp.cell hw (h9.cell 1) (fun f => f))) hS rfl ?_
  refine WO.quiet rfl (fun _ _ => ok_move rfl) hS rfl ?_
  refine WO.quiet rfl (fun _ _ => ok_assign rfl) hS rfl ?_
  refine WO.quiet rfl (fun _ _ => ok_assign rfl) hS rfl ?_
  refine WO.quiet rfl (fun _ _ => ok_assign rfl) hS rfl ?_
  refine WO.nil ?_
  refine WX.thenC ?_
  refine WC.ret ?_
  exact WX.ret3 rfl rfl rfl rfl ⟨_, rfl, r, i, hpl, rfl, hEr.trans (Kp.drew _ _)⟩
theorem shelfInsert {lo sb : Nat} {runs : List (List Slot)} (r i : Nat) (k : List UInt8) (n : ByteArray) (val : Value) (t : Nat) (hk : k.length = 20) (hval : val.oneCell' = true) (w : World)
    (hSh : ShL lo w sb runs) (hlo : lo ≤ w.heap.size) (hpos : ∀ (h : r < runs.length), i ≤ runs[r].length) (hrle : r ≤ runs.length) (hl : ∀ r ∈ runs, r.length ≤ 128) (hn : runs.length ≤ 1048576) :
    CallsV Try.prog 41 #[.pointer (some ⟨sb, 0, none⟩), .int .i64 (r : Nat), .int .i64 (i : Nat), .agg (kc k ++ [Value.string n, val]).toArray, .int .u64 (t : Nat)] w fun v w' => v = .tuple #[] ∧ ShL lo w' sb (insAt runs r i ⟨k, n, val, (t : Nat)⟩) ∧ Kp (lo ≤ ·) w w' := by
  have hel : (kc k ++ [Value.string n, val]).length = 22 := by simp [hk]
  refine calls_intro (args := [_, _, _, _, _]) Try.func41 rfl Try.ntmps41 rfl ?_
  refine WC.seq ?_
  refine WC.region ?_
  refine WL.box (c := kc k ++ [Value.string n, val]) rfl rfl rfl ?_
  intro b8 w8 hb8 ho8 hk8 hs8
  refine WL.nil ?_
  refine WX.thenC ?_
  refine WC.region ?_
  refine WL.step (ok_move rfl) rfl ?_
  refine WL.step (ok_move rfl) rfl ?_
  refine WL.step (ok_move rfl) rfl ?_
  refine WL.step (build92b rfl rfl) rfl ?_
  refine WL.step (ok_loadN rfl agg35 sz35 hel (ho8.rd0)) rfl ?_
  refine WL.step (ok_move rfl) rfl ?_
  refine WL.step (build54 hel rfl rfl) rfl ?_
  refine WL.rew 16 (.agg (Slot.cells ⟨k, n, val, (t : Nat)⟩).toArray) rfl (by simp [Slot.cells]) ?_
  refine WL.call (ok_callF rfl isfn51) rfl (insertS r i ⟨k, n, val, (t : Nat)⟩ _ (hSh.ext hk8) (Nat.le_trans hlo hk8.size) ⟨hk, hval⟩ hpos hrle hl hn) ?_
  rintro v w17 ⟨rfl, hS17, hK17⟩
  refine WL.nil ?_
  exact WX.end0 rfl ⟨_, rfl, rfl, hS17, (Kp.of_ext hk8).trans hK17⟩
theorem slotEntry (e : Slot) (he : OkSl e) (w : World) :
    CallsV Try.prog 24 #[.agg e.cells.toArray] w fun v w' => v = .agg e.ent.toArray ∧ Ext w w' := by
  have hec : e.cells.length = 23 := Slot.len (l := [e]) (by intro s hs; simp at hs; subst hs; exact he) e (by simp)
  have hel : e.ent.length = 22 := by simp [Slot.ent, he.1]
  refine calls_intro (args := [_]) Try.func24 rfl Try.ntmps24 rfl ?_
  refine WC.seq ?_
  refine WC.region ?_
  refine WL.box (c := e.cells) rfl rfl rfl ?_
  intro b1 w1 hb1 ho1 hk1 hs1
  refine WL.alloc zero35 rfl ?_
  intro b2 w2 hb2 ho2 hk2 hs2
  refine WL.nil ?_
  refine WX.thenC ?_
  refine WC.seq ?_
  refine WC.region ?_
  refine WL.step (ok_field rfl fld54_0) rfl ?_
  refine WL.step (ok_loadN rfl agg35 sz35 hel (rd_sent (ho1.ext hk2).rd0)) rfl ?_
  refine WL.store rfl rfl sz35 (ho2) (by simpa [Value.cells] using hel) (by simp [Value.cells, hel]) (fun u hu => Slot.one he u (by simp [Slot.ent, Value.cells] at hu; simp [Slot.cells]; rcases hu with h | h | h <;> simp [h])) ?_
  intro wr1 hor1 hkr1 hsr1
  refine WL.nil ?_
  refine WX.thenC ?_
  refine WC.ret ?_
  exact WX.retC (vs := e.ent) rfl rfl agg35 (by rw [hel]; exact sz35) (by have := hor1.rd0; simp only [Value.cells] at this; rw [splice_all _ _ (by simp [hel])] at this; exact this) ⟨_, rfl, rfl, (hk1.trans hk2).over hkr1 (fun i hi e => by have := hk1.size; omega)⟩
theorem slotTerm (e : Slot) (he : OkSl e) (w : World) :
    CallsV Try.prog 25 #[.agg e.cells.toArray] w fun v w' => v = .int .u64 e.term ∧ Ext w w' := by
  have hec : e.cells.length = 23 := Slot.len (l := [e]) (by intro s hs; simp at hs; subst hs; exact he) e (by simp)
  refine calls_intro (args := [_]) Try.func25 rfl Try.ntmps25 rfl ?_
  refine WC.seq ?_
  refine WC.region ?_
  refine WL.box (c := e.cells) rfl rfl rfl ?_
  intro b1 w1 hb1 ho1 hk1 hs1
  refine WL.step (ok_assign rfl) rfl ?_
  refine WL.nil ?_
  refine WX.thenC ?_
  refine WC.seq ?_
  refine WC.region ?_
  refine WL.step (ok_field rfl fld54_1) rfl ?_
  refine WL.step (ok_load rfl one52 (rd_sterm ho1.rd0 he.1)) rfl ?_
  refine WL.step (ok_assign rfl) rfl ?_
  refine WL.nil ?_
  refine WX.thenC ?_
  refine WC.ret ?_
  exact WX.ret1 rfl rfl ⟨_, rfl, rfl, hk1⟩
theorem afterW (rs : List CRun) (hd : Value) (g : Option Nat) (sb so : Nat) (k : List UInt8) (hk : k.length = 20) (w : World)
    (hSh : ShAt w sb so hd rs g) (hm : Mono (fun s => decide (0 < cmpK s.key k)) (slots rs).flatten) (hne : ∀ run ∈ slots rs, run ≠ []) (hl : ∀ r ∈ rs, r.sl.length ≤ 4096) (hn : rs.length ≤ 1048576) :
    CallsV Try.prog 49 #[.pointer (some ⟨sb, so, none⟩), .agg (kc k).toArray] w fun v w' => ∃ r i : Nat, placeOf (lens (slots rs)) (cntF (fun s => decide (0 < cmpK s.key k)) (slots rs).flatten) = (r, i) ∧ v = .agg #[.int .i64 (r : Nat), .int .i64 (i : Nat)] ∧ Ext w w' := by
  refine calls_intro (args := [_, _]) Try.func49 rfl Try.ntmps49 rfl ?_
  refine WC.seq ?_
  refine WC.region ?_
  refine WL.box (c := kc k) rfl rfl rfl ?_
  intro b3 w3 hb3 ho3 hk3 hs3
  refine WL.alloc zero92 rfl ?_
  intro b4 w4 hb4 ho4 hk4 hs4
  have hE4 : Ext w w4 := hk3.trans hk4
  have q3 := ho3.ext hk4
  refine WL.nil ?_
  refine WX.thenC ?_
  refine WC.seq ?_
  refine WC.region ?_
  refine WL.step (ok_move rfl) rfl ?_
  refine WL.step (ok_makeFunc rfl rfl) rfl ?_
  refine WL.call (ok_callF rfl isfn56) rfl (searchPlace rs _ g sb so 57 isfn57 _ (fun s => decide (0 < cmpK s.key k)) _ (hSh.ext hE4) (fun w1 b off s hE hs hr => by
      have := afterIn s hs b off b3 k hk w1 hr (q3.ext hE)
      simpa using this) hm hne hl hn) ?_
  rintro v w7 ⟨r, i, hpl, rfl, hE7⟩
  refine WL.store rfl rfl sz92 ((ho4.ext hE7)) (by simp [Value.cells]) (by simp [Value.cells]) (by simp [Value.cells, Value.oneCell']) ?_
  intro wr1 hor1 hkr1 hsr1
  refine WL.nil ?_
  refine WX.thenC ?_
  refine WC.ret ?_
  exact WX.retC (vs := [.int .i64 (r : Nat), .int .i64 (i : Nat)]) rfl rfl agg92 sz92 hor1.rd0 ⟨_, rfl, r, i, hpl, rfl, (hE4.trans hE7).over hkr1 (fun i hi e => by have := hk3.size; omega)⟩
theorem shelfAfter {lo sb : Nat} {runs : List (List Slot)} (k : List UInt8) (hk : k.length = 20) (w : World)
    (hSh : ShL lo w sb runs) (hm : Mono (fun s => decide (0 < cmpK s.key k)) runs.flatten) (hne : ∀ run ∈ runs, run ≠ []) (hl : ∀ r ∈ runs, r.length ≤ 4096) (hn : runs.length ≤ 1048576) :
    CallsV Try.prog 34 #[.pointer (some ⟨sb, 0, none⟩), .agg (kc k).toArray] w fun v w' => ∃ r i : Nat, placeOf (lens runs) (cntF (fun s => decide (0 < cmpK s.key k)) runs.flatten) = (r, i) ∧
      v = .tuple #[.int .i64 (r : Nat), .int .i64 (i : Nat)] ∧ Ext w w' := by
  obtain ⟨hd, rs, g, hSa, rfl⟩ := hSh.at
  refine calls_intro (args := [_, _]) Try.func34 rfl Try.ntmps34 rfl ?_
  refine WC.seq ?_
  refine WC.region ?_
  refine WL.box (c := kc k) rfl rfl rfl ?_
  intro b3 w3 hb3 ho3 hk3 hs3
  refine WL.step (ok_assign rfl) rfl ?_
  refine WL.step (ok_assign rfl) rfl ?_
  refine WL.nil ?_
  refine WX.thenC ?_
  refine WC.seq ?_
  refine WC.region ?_
  refine WL.step (ok_move rfl) rfl ?_
  refine WL.step (ok_loadN rfl agg33 sz33 (by simp [hk]) (ho3.rd0)) rfl ?_
  refine WL.call (ok_callF rfl isfn49) rfl (afterW rs _ g sb 0 k hk _ (hSa.ext hk3) hm hne (fun r hr => hl r.sl (by simp only [slots, List.mem_map]; exact ⟨r, hr, rfl⟩)) (by rw [slots_length] at hn; exact hn)) ?_
  rintro v w9 ⟨r, i, hpl, rfl, hE9⟩
  refine WL.alloc zero92 rfl ?_
  intro b6 w6 hb6 ho6 hk6 hs6
  refine WL.store rfl rfl sz92 (ho6) (by simp [Value.cells]) (by simp [Value.cells]) (by simp [Value.cells, Value.oneCell']) ?_
  intro wr1 hor1 hkr1 hsr1
  have h6 : Own wr1 b6 92 [.int .i64 (r : Nat), .int .i64 (i : Nat)] := hor1
  have hEr : Ext w wr1 := ((hk3.trans hE9).trans hk6).over hkr1 (fun i hi e => by have := hk3.size; have := hE9.size; omega)
  refine WL.nil ?_
  refine WX.thenC ?_
  refine WC.seq ?_
  refine WC.drawE [] 4 [(0, true), (1, true), (2, true), (3, true), (4, true), (5, true)] mixed (by kernel_rfl) (fun hS => ?_)
  refine WO.quiet rfl (fun _ _ => ok_field rfl fld92_0) hS rfl ?_
  refine WO.quiet rfl (fun _ hw => ok_load rfl one3 (Kp.cell hw (h6.cell 0) (fun f => f))) hS rfl ?_
  refine WO.quiet rfl (fun _ _ => ok_field rfl fld92_1) hS rfl ?_
  refine WO.quiet rfl (fun _ hw => ok_load rfl one3 (Kp.cell hw (h6.cell 1) (fun f => f))) hS rfl ?_
  refine WO.quiet rfl (fun _ _ => ok_assign rfl) hS rfl ?_
  refine WO.quiet rfl (fun _ _ => ok_assign rfl) hS rfl ?_
  refine WO.nil ?_
  refine WX.thenC ?_
  refine WC.ret ?_
  exact WX.ret2 rfl rfl rfl ⟨_, rfl, r, i, hpl, rfl, hEr.trans (Kp.drew _ _)⟩

end Go.Proofs.Try
