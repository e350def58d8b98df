/- Walks: the store's small words. -/
import Derived.Test.Qxb6605723aStm
set_option linter.unusedVariables false
set_option linter.unusedSimpArgs false
set_option maxRecDepth 100000
namespace Go.Sx
open Go.Pl
section
variable {P : Program} {s : Store} {ty : TypeId} {w w' : World} {N : Nat} {ops : Array Oper} {Q : Exit → Act → World → Prop} {rest : List Oper} {pos : String} {after : Array Edge} {d : Nat}
theorem WL.delete {t kt et : TypeId} {x y : Operand} {mb : Nat} {n : ByteArray} {nm : Nm} (hx : ev s x = some (.map (some mb))) (hy : ev s y = some (.string n)) (hm : P.underlying t = some (.map kt et)) (hk : P.underlying kt = some .string)
    (h : MapAt w mb nm) (hc : ∀ w', MapAt w' mb (delN nm n) → Kp (· = mb) w w' → w'.heap.size = w.heap.size → WL P N ops Q rest s w') :
    WL P N ops Q (⟨none, .call ⟨.builtin .delete, #[x, y], #[t, kt]⟩, ty, pos, after, none⟩ :: rest) s w := by
  obtain ⟨w', h1, h2, h3, h4⟩ := ok_delete (ty := ty) hx hy hm hk h
  exact WL.valNone h1 (hc w' h2 h3 h4)
theorem WL.makeMap {t : TypeId} (hd : Nat.blt d N = true) (h : ∀ b w', b = w.heap.size → MapAt w' b [] → Ext w w' → w'.heap.size = b + 1 → WL P N ops Q rest ((d, .map (some b)) :: s) w') :
    WL P N ops Q (⟨some d, .makeMap t none, ty, pos, after, none⟩ :: rest) s w :=
  WL.step ok_makeMap hd (h _ _ rfl (MapAt.new w) (Kp.allocM _ _ _) (by simp))
theorem WO.mapUpdate {l : List Oper} {S : World → Prop} {L : List Nat} {r : List (Nat × Bool)} {i : Nat} {t kt et : TypeId} {x y z : Operand} {mb : Nat} {n : ByteArray} {v : List UInt8 × Bool} {nm : Nm} (hi : nth l i = some ⟨none, .mapUpdate t x y z, ty, pos, after, none⟩)
    (hx : ev s x = some (.map (some mb))) (hy : ev s y = some (.string n)) (hv : ev s z = some (encV v)) (hm : P.underlying t = some (.map kt et)) (hk : P.underlying kt = some .string)
    (h : MapAt w mb nm) (hc : ∀ w', MapAt w' mb (setN nm n v) → Kp (· = mb) w w' → w'.heap.size = w.heap.size → (L.contains i = false → S w') ∧ WO P N l Q S L r s w') :
    WO P N l Q S L ((i, false) :: r) s w := by
  obtain ⟨w', h1, h2, h3, h4⟩ := ok_mapUpdate (ty := ty) hx hy hv hm hk h
  exact WO.loudSkip hi h1 (hc w' h2 h3 h4).1 (hc w' h2 h3 h4).2
end
theorem StR.setMap {A : Nat → Prop} {w w' : World} {stb mb : Nat} {nm nm' : Nm} {hd : Bool → Value} {rs : Bool → List CRun} {g : Bool → Option Nat} (h : StR A w stb nm hd (some mb) rs g) (hM : MapAt w' mb nm') (hK : Kp (· = mb) w w') : StR A w' stb nm' hd (some mb) rs g ∧ Kp (fun k => ¬ A k) w w' := by
  obtain ⟨h1, h2, h3, h4⟩ := h.mat mb rfl
  refine ⟨⟨hK.own h.own (Ne.symm h2), fun b => (h.runs b).kp hK (fun x hx e => h4 b (e ▸ hx)), h.sb, h.dis, h.av, h.avr, (fun e => by cases e), fun m hm => ?_⟩, hK.mono (fun k _ e => by rw [e]; exact h3)⟩
  cases hm
  exact ⟨hM, h2, h3, h4⟩
theorem encV_len {v : List UInt8 × Bool} (h : v.1.length = 20) : (kc v.1 ++ [Value.bool v.2]).length = 21 := by simp [h]
theorem encV_one (v : List UInt8 × Bool) : ∀ u ∈ kc v.1 ++ [Value.bool v.2], u.oneCell' = true := one_append (kc_one _) (one_cons rfl one_nil)
end Go.Sx
namespace Go.Proofs.Try
open Go.Sx Go.Pl

def zent : List Value := [.int .u8 0, .int .u8 0, .int .u8 0, .int .u8 0, .int .u8 0, .int .u8 0, .int .u8 0, .int .u8 0, .int .u8 0, .int .u8 0, .int .u8 0, .int .u8 0, .int .u8 0, .int .u8 0, .int .u8 0, .int .u8 0, .int .u8 0, .int .u8 0, .int .u8 0, .int .u8 0, .string ⟨#[]⟩, .slice none 0 0]
def z98 : List Value := [.int .u8 0, .int .u8 0, .int .u8 0, .int .u8 0, .int .u8 0, .int .u8 0, .int .u8 0, .int .u8 0, .int .u8 0, .int .u8 0, .int .u8 0, .int .u8 0, .int .u8 0, .int .u8 0, .int .u8 0, .int .u8 0, .int .u8 0, .int .u8 0, .int .u8 0, .int .u8 0, .bool false]
theorem zero98' : ZeroT Try.prog 98 (.agg z98.toArray) := zero98
theorem build98 {s : Store} {ty : TypeId} {w : World} {x y : Operand} {k : List UInt8} {b : Bool} (hk : k.length = 20) (hx : ev s x = some (.agg (kc k).toArray)) (hy : ev s y = some (.bool b)) :
    OpOk Try.prog s (.build 98 #[(0, x), (1, y)]) ty w (encV (k, b)) w := by
  refine ok_build (vs := [.agg (kc k).toArray, .bool b]) zero98 flds98 (by simp [evs, hx, hy]) ?_
  simp [fillL, splice, Value.cells, hk, List.drop_append, List.take_append]
theorem build83z {s : Store} {ty : TypeId} {w : World} : OpOk Try.prog s (.build 83 #[]) ty w (.agg #[.slice none 0 0, .slice none 0 0, .map none]) w :=
  ok_build (vs := []) (res := [.slice none 0 0, .slice none 0 0, .map none]) zero83 flds83 rfl rfl
theorem flds98' : ∃ f0 f1 : Field, (Try.prog.fieldsOf 98).toList = [f0, f1] ∧ f0.name ≠ "_" ∧ f1.name ≠ "_" ∧ f0.offset = 0 ∧ f1.offset = 20 ∧ f0.type = 33 ∧ f1.type = 4 := by
  have hu : Try.prog.underlying 98 = some (.struct (Try.prog.fieldsOf 98)) := by kernel_rfl
  have e := Try.underlying98.symm.trans hu
  simp only [Option.some.injEq, TypeDesc.struct.injEq] at e
  rw [← e]
  exact ⟨_, _, rfl, by decide, by decide, rfl, rfl, rfl, rfl⟩
theorem neq98 {s : Store} {ty : TypeId} {w : World} {x y : Operand} {a b : List UInt8 × Bool} (hx : ev s x = some (encV a)) (hy : ev s y = some (encV b)) (ka : a.1.length = 20) (kb : b.1.length = 20) :
    OpOk Try.prog s (.binOp .neq 98 x y 98) ty w (.bool (!decide (a = b))) w := by
  obtain ⟨f0, f1, h1, h2, h3, h4, h5, h6, h7⟩ := flds98'
  exact ok_neqV hx hy (by kernel_rfl) h1 h2 h3 h4 h5 (by rw [h6]; exact key33) (by rw [h6]; exact sz33) (by rw [h6]; exact agg33) (by rw [h7]; exact Try.underlying4) (by rw [h7]; exact one4) (by kernel_rfl) (by kernel_rfl) ka kb

theorem storeShelf (stb : Nat) (copy : Bool) (w : World) :
    CallsV Try.prog 46 #[.pointer (some ⟨stb, 0, none⟩), .bool copy] w fun v w' => v = .pointer (some ⟨stb, copy.toNat, none⟩) ∧ w' = w := by
  refine calls_intro (args := [_, _]) Try.func46 rfl Try.ntmps46 rfl ?_
  refine WC.seq ?_
  refine WC.region ?_
  refine WL.step (ok_assign rfl) rfl ?_
  refine WL.nil ?_
  refine WX.thenC ?_
  refine WC.seq ?_
  refine WC.seq ?_
  refine WC.region ?_
  refine WL.step (ok_move rfl) rfl ?_
  refine WL.nil ?_
  refine WX.thenC ?_
  refine WC.cond rfl (fun hc5 => ?_) (fun hc5 => ?_)
  ·
    refine WC.seq ?_
    refine WC.region ?_
    refine WL.step (ok_move rfl) rfl ?_
    refine WL.step (ok_nilCheck rfl) rfl ?_
    refine WL.step (ok_field rfl fld83_1) rfl ?_
    refine WL.step (ok_assign rfl) rfl ?_
    refine WL.nil ?_
    refine WX.thenC ?_
    refine WC.ret ?_
    refine WX.thenR ?_
    exact WX.ret1 rfl rfl ⟨_, rfl, by rw [hc5]; rfl, rfl⟩
  ·
    refine WC.skip ?_
    refine WX.thenC ?_
    refine WC.seq ?_
    refine WC.region ?_
    refine WL.step (ok_move rfl) rfl ?_
    refine WL.step (ok_nilCheck rfl) rfl ?_
    refine WL.step (ok_field rfl fld83_0) rfl ?_
    refine WL.step (ok_assign rfl) rfl ?_
    refine WL.nil ?_
    refine WX.thenC ?_
    refine WC.ret ?_
    exact WX.ret1 rfl rfl ⟨_, rfl, by rw [hc5]; rfl, rfl⟩
theorem newStore (w : World) :
    CallsV Try.prog 12 #[] w fun v w' => ∃ b, v = .pointer (some ⟨b, 0, none⟩) ∧ b = w.heap.size ∧ StoreAt (fun k => k < w.heap.size) w' b [] (fun _ => []) ∧ Ext w w' := by
  refine calls_intro (args := []) Try.func12 rfl Try.ntmps12 rfl ?_
  refine WC.seq ?_
  refine WC.region ?_
  refine WL.step (ok_assign rfl) rfl ?_
  refine WL.nil ?_
  refine WX.thenC ?_
  refine WC.seq ?_
  refine WC.region ?_
  refine WL.step (build83z) rfl ?_
  refine WL.box (c := [.slice none 0 0, .slice none 0 0, .map none]) rfl rfl rfl ?_
  intro b2 w2 hb2 ho2 hk2 hs2
  refine WL.step (ok_assign rfl) rfl ?_
  refine WL.nil ?_
  refine WX.thenC ?_
  refine WC.ret ?_
  exact WX.ret1 rfl rfl ⟨_, rfl, b2, rfl, hb2, ⟨fun _ => .slice none 0 0, none, fun _ => [], fun _ => none, ⟨ho2, fun _ => ⟨.inl ⟨rfl, rfl, rfl, rfl⟩, by simp, by simp [fp]⟩, fun _ => by simp [fp], by simp [fp], by omega, fun _ => by simp [fp], fun _ => rfl, fun mb h => by cases h⟩, fun _ => rfl⟩, hk2⟩
theorem storeSizeM {A : Nat → Prop} {stb : Nat} {nm : Nm} {Sh : Shs} (w : World) (hS : StoreAt A w stb nm Sh) :
    CallsV Try.prog 45 #[.pointer (some ⟨stb, 0, none⟩)] w fun v w' => v = .int .i64 (nm.length : Nat) ∧ w' = w := by
  obtain ⟨hd, mp, rs, g, hR, hsl⟩ := hS
  refine calls_intro (args := [_]) Try.func45 rfl Try.ntmps45 rfl ?_
  refine WC.seq ?_
  refine WC.region ?_
  refine WL.step (ok_assign rfl) rfl ?_
  refine WL.nil ?_
  refine WX.thenC ?_
  refine WC.seq ?_
  refine WC.region ?_
  refine WL.step (ok_move rfl) rfl ?_
  refine WL.step (ok_nilCheck rfl) rfl ?_
  refine WL.step (ok_field rfl fld83_2) rfl ?_
  refine WL.step (ok_load rfl one81 (hR.own.cell 2)) rfl ?_
  refine WL.step (ok_lenM rfl Try.underlying81 hR.nm) rfl ?_
  refine WL.step (ok_assign rfl) rfl ?_
  refine WL.nil ?_
  refine WX.thenC ?_
  refine WC.ret ?_
  exact WX.ret1 rfl rfl ⟨_, rfl, rfl, rfl⟩
theorem storeSize {A : Nat → Prop} {stb : Nat} {nm : Nm} {Sh : Shs} (w : World) (hS : StoreAt A w stb nm Sh) :
    CallsV Try.prog 18 #[.pointer (some ⟨stb, 0, none⟩)] w fun v w' => v = .int .i64 (nm.length : Nat) ∧ w' = w := by
  refine calls_intro (args := [_]) Try.func18 rfl Try.ntmps18 rfl ?_
  refine WC.seq ?_
  refine WC.region ?_
  refine WL.step (ok_assign rfl) rfl ?_
  refine WL.nil ?_
  refine WX.thenC ?_
  refine WC.seq ?_
  refine WC.region ?_
  refine WL.step (ok_move rfl) rfl ?_
  refine WL.call (ok_callF rfl isfn45) rfl (storeSizeM _ hS) ?_
  rintro v w4 ⟨rfl, rfl⟩
  refine WL.step (ok_assign rfl) rfl ?_
  refine WL.nil ?_
  refine WX.thenC ?_
  refine WC.ret ?_
  exact WX.ret1 rfl rfl ⟨_, rfl, rfl, rfl⟩
theorem shelfGet (rs : List CRun) (hd : Value) (g : Option Nat) (sb so : Nat) (k : List UInt8) (n : ByteArray) (hk : k.length = 20) (r i : Nat) (w : World)
    (hSh : ShAt w sb so hd rs g) (hm : Mono (geP k n.toList) (slots rs).flatten) (hne : ∀ run ∈ slots rs, run ≠ []) (hl : ∀ r ∈ rs, r.sl.length ≤ 4096) (hn : rs.length ≤ 1048576)
    (hpl : placeOf (lens (slots rs)) (cntF (geP k n.toList) (slots rs).flatten) = (r, i)) (hr : r < rs.length) :
    CallsV Try.prog 53 #[.pointer (some ⟨sb, so, none⟩), .agg (kc k).toArray, .string n] w fun v w' => v = .pointer (some ⟨rs[r].b, 0 + i * 23, none⟩) ∧ Ext w w' := by
  obtain ⟨ha, hcap, rfl⟩ := hSh.runs.hdl
  have hi : i < rs[r].sl.length := by have := placeOf_snd (lens (slots rs)) (cntF (geP k n.toList) (slots rs).flatten) rs[r].sl.length (by rw [hpl]; simp [lens, slots, hr]); rw [hpl] at this; exact this
  refine calls_intro (args := [_, _, _]) Try.func53 rfl Try.ntmps53 rfl ?_
  refine WC.seq ?_
  refine WC.region ?_
  refine WL.box (c := kc k) rfl rfl rfl ?_
  intro b4 w4 hb4 ho4 hk4 hs4
  refine WL.step (ok_assign rfl) rfl ?_
  refine WL.nil ?_
  refine WX.thenC ?_
  refine WC.seq ?_
  refine WC.region ?_
  refine WL.step (ok_move rfl) rfl ?_
  refine WL.step (ok_loadN rfl agg33 sz33 (by simp [hk]) (ho4.rd0)) rfl ?_
  refine WL.step (ok_move rfl) rfl ?_
  refine WL.call (ok_callF rfl isfn50) rfl (findW rs _ g sb so k n hk _ (hSh.ext hk4) hm hne hl hn) ?_
  rintro v w13 ⟨r', i', hpl', rfl, hE13⟩
  rw [hpl] at hpl'
  obtain ⟨rfl, rfl⟩ := Prod.mk.inj hpl'
  refine WL.step (ok_move rfl) rfl ?_
  refine WL.step (ok_extract rfl rfl) rfl ?_
  refine WL.step (ok_extract rfl rfl) rfl ?_
  refine WL.alloc zero92 rfl ?_
  intro b7 w7 hb7 ho7 hk7 hs7
  refine WL.store rfl rfl sz92 (ho7) (by simp [Value.cells]) (by simp [Value.cells]) (by simp [Value.cells, Value.oneCell']) ?_
  intro wr1 hor1 hkr1 hsr1
  have h7 : Own wr1 b7 92 [.int .i64 (r : Nat), .int .i64 (i : Nat)] := hor1
  have hEr : Ext w wr1 := ((hk4.trans hE13).trans hk7).over hkr1 (fun i hi e => by have := hk4.size; have := hE13.size; omega)
  have hSr := hSh.ext hEr
  obtain ⟨gb, hcap', spg, heq, rfl, hOg, hcl⟩ := hSr.runs.hd (by intro e; rw [e] at hr; simp at hr)
  cases heq
  have hrun := hSr.runs.run rs[r] (List.getElem_mem hr)
  obtain ⟨sp, _, _, hRc⟩ := hrun.own
  refine WL.step (ok_assign rfl) rfl ?_
  refine WL.nil ?_
  refine WX.thenC ?_
  refine WC.seq ?_
  refine WC.drawE [] 8 [(0, true), (1, true), (2, true), (3, true), (4, true), (5, true), (6, true), (7, true), (8, true), (9, true), (10, true), (11, true)] mixed (by kernel_rfl) (fun hS => ?_)
  refine WO.quiet rfl (fun _ _ => ok_move rfl) hS rfl ?_
  refine WO.quiet rfl (fun _ _ => ok_nilCheck rfl) hS rfl ?_
  refine WO.quiet rfl (fun _ _ => ok_field rfl fld80_0) hS rfl ?_
  refine WO.quiet rfl (fun _ hw => ok_load rfl one45 (Kp.cell hw (hSr.cell) (fun f => f))) hS rfl ?_
  refine WO.quiet rfl (fun _ _ => ok_field rfl fld92_0) hS rfl ?_
  refine WO.quiet rfl (fun _ hw => ok_load rfl one3 (Kp.cell hw (h7.cell 0) (fun f => f))) hS rfl ?_
  refine WO.quiet rfl (fun _ _ => ok_indexS _ rfl rfl rfl (by omega) Try.underlying45 sz49) hS rfl ?_
  refine WO.quiet rfl (fun _ hw => ok_load rfl one49 (Kp.cell hw (rd_hdr hOg r hr) (fun f => f))) hS rfl ?_
  refine WO.quiet rfl (fun _ _ => ok_field rfl fld92_1) hS rfl ?_
  refine WO.quiet rfl (fun _ hw => ok_load rfl one3 (Kp.cell hw (h7.cell 1) (fun f => f))) hS rfl ?_
  refine WO.quiet rfl (fun _ _ => ok_indexS i rfl rfl rfl (by omega) Try.underlying49 sz54) hS rfl ?_
  refine WO.quiet rfl (fun _ _ => ok_assign rfl) hS rfl ?_
  refine WO.nil ?_
  refine WX.thenC ?_
  refine WC.ret ?_
  exact WX.ret1 rfl rfl ⟨_, rfl, rfl, hEr.trans (Kp.drew _ _)⟩
theorem storeGetNoneM {A : Nat → Prop} {stb : Nat} {nm : Nm} {Sh : Shs} (n : ByteArray) (w : World) (hS : StoreAt A w stb nm Sh) (hg : getN nm n = none) :
    CallsV Try.prog 44 #[.pointer (some ⟨stb, 0, none⟩), .string n] w fun v w' => v = .tuple #[.agg zent.toArray, .bool false, .bool false] ∧ Ext w w' := by
  obtain ⟨hd, mp, rs, g, hR, hsl⟩ := hS
  refine calls_intro (args := [_, _]) Try.func44 rfl Try.ntmps44 rfl ?_
  refine WC.seq ?_
  refine WC.region ?_
  refine WL.alloc zero35 rfl ?_
  intro b4 w4 hb4 ho4 hk4 hs4
  have hR4 := hR.move (B := A) hk4 (fun _ q => .inl q)
  refine WL.step (ok_assign rfl) rfl ?_
  refine WL.step (ok_assign rfl) rfl ?_
  refine WL.nil ?_
  refine WX.thenC ?_
  refine WC.seq ?_
  refine WC.region ?_
  refine WL.step (ok_move rfl) rfl ?_
  refine WL.step (ok_nilCheck rfl) rfl ?_
  refine WL.step (ok_field rfl fld83_2) rfl ?_
  refine WL.step (ok_load rfl one81 (hR4.own.cell 2)) rfl ?_
  refine WL.step (ok_move rfl) rfl ?_
  refine WL.step (ok_lookupM rfl rfl Try.underlying81 Try.underlying9 zero98' hR4.nm) rfl ?_
  refine WL.rew 14 (.tuple #[.agg z98.toArray, .bool false]) rfl (by rw [hg]; rfl) ?_
  refine WL.step (ok_move rfl) rfl ?_
  refine WL.step (ok_extract rfl rfl) rfl ?_
  refine WL.step (ok_extract rfl rfl) rfl ?_
  refine WL.alloc zero98 rfl ?_
  intro b7 w7 hb7 ho7 hk7 hs7
  refine WL.store rfl rfl sz98 (ho7) rfl (by decide) (zslot_one' rfl) ?_
  intro wr1 hor1 hkr1 hsr1
  refine WL.step (ok_assign rfl) rfl ?_
  refine WL.nil ?_
  refine WX.thenC ?_
  refine WC.seq ?_
  refine WC.seq ?_
  refine WC.region ?_
  refine WL.step (ok_move rfl) rfl ?_
  refine WL.step (ok_not rfl) rfl ?_
  refine WL.nil ?_
  refine WX.thenC ?_
  refine WC.condTb rfl rfl ?_
  refine WC.seq ?_
  refine WC.region ?_
  refine WL.step (ok_build (vs := []) zero35 flds35 rfl rfl) rfl ?_
  refine WL.store rfl rfl sz35 (hkr1.own (ho4.ext hk7) (by omega)) rfl (by decide) (zslot_one' rfl) ?_
  intro wr3 hor3 hkr3 hsr3
  refine WL.step (ok_assign rfl) rfl ?_
  refine WL.step (ok_assign rfl) rfl ?_
  refine WL.nil ?_
  refine WX.thenC ?_
  refine WC.ret ?_
  refine WX.thenR ?_
  have h4f : Own wr3 b4 35 zent := hor3
  exact WX.retCTT (vs := zent) rfl rfl rfl rfl agg35 (by exact sz35) h4f.rd0 ⟨_, rfl, rfl, (((hk4.trans hk7).over hkr1 (fun i hi e => by omega)).over hkr3 (fun i hi e => by omega))⟩
theorem storeGetSomeM {A : Nat → Prop} {stb : Nat} {nm : Nm} {Sh : Shs} (n : ByteArray) (w : World) (hS : StoreAt A w stb nm Sh) (hI : SInv nm Sh) (hl : ∀ b, (Sh b).length ≤ 1048576) (k : List UInt8) (c : Bool) (hg : getN nm n = some (k, c)) :
    CallsV Try.prog 44 #[.pointer (some ⟨stb, 0, none⟩), .string n] w fun v w' => (∃ s ∈ (Sh c).flatten, OkSl s ∧ ps s = (k, n.toList) ∧ v = .tuple #[.agg s.ent.toArray, .bool c, .bool true]) ∧ Ext w w' := by
  obtain ⟨hd, mp, rs, g, hR, hsl⟩ := hS
  have hk := hI.key hg
  have hpm := hI.pair hg
  have hic := hI.inv c
  have hlc := hl c
  obtain ⟨r, i, hpl⟩ : ∃ r i, placeOf (lens (Sh c)) (cntF (geP k n.toList) (Sh c).flatten) = (r, i) := ⟨_, _, rfl⟩
  have hr := (hic.take hk hpm hpl).1
  have hht := hit_rank hic hk hpl
  rw [decide_eq_true hpm] at hht
  have hslc := hsl c
  rw [← hslc] at hic hlc hpl hr hht
  rw [slots_length] at hr hlc
  refine calls_intro (args := [_, _]) Try.func44 rfl Try.ntmps44 rfl ?_
  refine WC.seq ?_
  refine WC.region ?_
  refine WL.alloc zero35 rfl ?_
  intro b4 w4 hb4 ho4 hk4 hs4
  have hR4 := hR.move (B := A) hk4 (fun _ q => .inl q)
  refine WL.step (ok_assign rfl) rfl ?_
  refine WL.step (ok_assign rfl) rfl ?_
  refine WL.nil ?_
  refine WX.thenC ?_
  refine WC.seq ?_
  refine WC.region ?_
  refine WL.step (ok_move rfl) rfl ?_
  refine WL.step (ok_nilCheck rfl) rfl ?_
  refine WL.step (ok_field rfl fld83_2) rfl ?_
  refine WL.step (ok_load rfl one81 (hR4.own.cell 2)) rfl ?_
  refine WL.step (ok_move rfl) rfl ?_
  refine WL.step (ok_lookupM rfl rfl Try.underlying81 Try.underlying9 zero98' hR4.nm) rfl ?_
  refine WL.rew 14 (.tuple #[.agg (kc k ++ [Value.bool c]).toArray, .bool true]) rfl (by rw [hg]; rfl) ?_
  refine WL.step (ok_move rfl) rfl ?_
  refine WL.step (ok_extract rfl rfl) rfl ?_
  refine WL.step (ok_extract rfl rfl) rfl ?_
  refine WL.alloc zero98 rfl ?_
  intro b7 w7 hb7 ho7 hk7 hs7
  refine WL.store rfl rfl sz98 (ho7) (by simp [Value.cells, hk]) (by simp [Value.cells, hk]) (encV_one (k, c)) ?_
  intro wr1 hor1 hkr1 hsr1
  have h7 : Own wr1 b7 98 (kc k ++ [Value.bool c]) := by
    have := hor1
    simp only [Value.cells, List.toList_toArray] at this
    rw [splice_all _ _ (by simp [hk])] at this
    exact this
  have hEr : Ext w wr1 := (hk4.trans hk7).over hkr1 (fun i hi e => by omega)
  have hRr := hR.move (B := A) hEr (fun _ q => .inl q)
  have h4r := hkr1.own (ho4.ext hk7) (by omega)
  have hcb : wr1.cell? ⟨b7, 0 + 20, none⟩ = some (.bool c) := by rw [h7.cell]; simp [List.getElem?_append, hk]
  have hSc := hRr.at c
  have hb4l := h4r.lt
  have hb7l := h7.lt
  have hrun := (hRr.runs c).run (rs c)[r] (List.getElem_mem hr)
  have hi : i < (rs c)[r].sl.length := by have := placeOf_snd (lens (slots (rs c))) (cntF (geP k n.toList) (slots (rs c)).flatten) (rs c)[r].sl.length (by rw [hpl]; simp [lens, slots, hr]); rw [hpl] at this; exact this
  obtain ⟨S, hSd⟩ : ∃ S, S = (rs c)[r].sl[i] := ⟨_, rfl⟩
  have hokS : OkSl S := by rw [hSd]; exact hrun.1 _ (List.getElem_mem hi)
  have hslot : Rd wr1 (rs c)[r].b (0 + i * 23) S.cells := by rw [hSd]; exact hrun.slot i hi
  have helen : S.ent.length = 22 := by simp [Slot.ent, hokS.1]
  have hSm : S ∈ (Sh c).flatten := by rw [← hslc, hSd]; exact List.mem_flatten.2 ⟨_, by simp only [slots, List.mem_map]; exact ⟨_, List.getElem_mem hr, rfl⟩, List.getElem_mem hi⟩
  have hSp : ps S = (k, n.toList) := by
    rw [hit, slots_get _ _ hr] at hht
    simp only [List.getElem?_eq_getElem hi, Bool.and_eq_true, decide_eq_true_eq] at hht
    rw [hSd]; exact Prod.ext hht.1 hht.2
  have hRb4 : (rs c)[r].b ≠ b4 := by have := (hR.runs c).lt (rs c)[r].b (mem_fp.2 (.inr ⟨_, List.getElem_mem hr, rfl⟩)); omega
  refine WL.step (ok_assign rfl) rfl ?_
  refine WL.nil ?_
  refine WX.thenC ?_
  refine WC.seq ?_
  refine WC.seq ?_
  refine WC.region ?_
  refine WL.step (ok_move rfl) rfl ?_
  refine WL.step (ok_not rfl) rfl ?_
  refine WL.nil ?_
  refine WX.thenC ?_
  refine WC.condFb rfl rfl ?_
  refine WC.skip ?_
  refine WX.thenC ?_
  refine WC.seq ?_
  refine WC.draw (Kp (· = b4) wr1) [] 10 [(0, true), (1, true), (2, true), (4, true), (5, true), (6, true), (11, true), (12, true), (3, false), (7, false), (8, true), (9, true), (10, true), (13, false), (14, true), (15, true)] mixed (by kernel_rfl) ?_
  have hS : Kp (· = b4) wr1 wr1.drew := Kp.drew _ _
  refine WO.quiet rfl (fun _ _ => ok_move rfl) hS rfl ?_
  refine WO.quiet rfl (fun _ _ => ok_field rfl fld98_1) hS rfl ?_
  refine WO.quiet rfl (fun _ hw => ok_load rfl one4 (Kp.cell hw (hcb) (by omega))) hS rfl ?_
  refine WO.quiet rfl (fun _ _ => ok_field rfl fld98_0) hS rfl ?_
  refine WO.quiet rfl (fun _ hw => ok_loadN rfl agg33 sz33 (by simp [hk]) (Rd.kp (h7.rd0.append_left) hw (by omega))) hS rfl ?_
  refine WO.quiet rfl (fun _ _ => ok_move rfl) hS rfl ?_
  refine WO.quiet rfl (fun _ _ => ok_field rfl fld98_1) hS rfl ?_
  refine WO.quiet rfl (fun _ hw => ok_load rfl one4 (Kp.cell hw (hcb) (by omega))) hS rfl ?_
  refine WO.loudCall rfl (ok_callF rfl isfn46) rfl (storeShelf stb c _) ?_
  rintro v w23 ⟨rfl, rfl⟩
  refine ⟨(fun _ => hS), ?_⟩
  refine WO.loudCall rfl (ok_callF rfl isfn53) rfl (shelfGet (rs c) _ (g c) stb c.toNat k n hk r i _ (hSc.ext (Kp.drew _ _)) (hic.mono hk _) hic.ne (fun r hr => Nat.le_trans (hic.le r.sl (by simp only [slots, List.mem_map]; exact ⟨r, hr, rfl⟩)) (by decide)) hlc hpl hr) ?_
  rintro v w27 ⟨rfl, hE27⟩
  refine ⟨(fun _ => hS.trans (Kp.of_ext hE27)), ?_⟩
  have hS := hS.trans (Kp.of_ext (M := (· = b4)) hE27)
  refine WO.quiet rfl (fun _ _ => ok_nilCheck rfl) hS rfl ?_
  refine WO.quiet rfl (fun _ _ => ok_field rfl fld54_0) hS rfl ?_
  refine WO.quiet rfl (fun _ hw => ok_loadN rfl agg35 sz35 helen (Rd.kp (rd_sent hslot) hw hRb4)) hS rfl ?_
  refine WO.store rfl rfl rfl sz35 (h4r.drew.ext hE27) (by simpa [Value.cells] using helen) (by simp [Value.cells, helen]) (ent_one hokS) ?_
  intro wr4 hor4 hkr4 hsr4
  refine ⟨(fun _ => hS.trans hkr4), ?_⟩
  have hS := hS.trans hkr4
  have h4f : Own wr4 b4 35 S.ent := by
    have := hor4
    simp only [Value.cells, List.toList_toArray] at this
    rw [splice_all _ _ (by rw [helen]; rfl)] at this
    exact this
  refine WO.quiet rfl (fun _ _ => ok_assign rfl) hS rfl ?_
  refine WO.quiet rfl (fun _ _ => ok_assign rfl) hS rfl ?_
  refine WO.nil ?_
  refine WX.thenC ?_
  refine WC.ret ?_
  exact WX.retCTT (vs := S.ent) rfl rfl rfl rfl agg35 (by rw [helen]; exact sz35) h4f.rd0 ⟨_, rfl, ⟨S, hSm, hokS, hSp, rfl⟩, hEr.over hS (fun i hi e => by omega)⟩

end Go.Proofs.Try
