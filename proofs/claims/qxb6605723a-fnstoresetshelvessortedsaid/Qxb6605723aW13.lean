/- Walks: the store's get, remove and set. -/
import Derived.Test.Qxb6605723aW12
set_option linter.unusedVariables false
set_option linter.unusedSimpArgs false
set_option maxRecDepth 100000
namespace Go.Sx
open Go.Pl
theorem StR.withMap {A : Nat → Prop} {w w' : World} {stb mb : Nat} {nm : Nm} {hd : Bool → Value} {rs : Bool → List CRun} {g : Bool → Option Nat} (h : StR A w stb nm hd none rs g) (hO : Own w' stb 83 [hd false, hd true, .map (some mb)]) (hM : MapAt w' mb []) (hmb : w.heap.size ≤ mb) (hK : Kp (· = stb) w w') (hA : ∀ b, A b → b < w.heap.size) :
    StR A w' stb nm hd (some mb) rs g ∧ Kp (fun k => ¬ A k) w w' := by
  have hs := h.own.lt
  refine ⟨⟨hO, fun b => (h.runs b).kp hK (fun x hx e => h.sb b (e ▸ hx)), h.sb, h.dis, h.av, h.avr, (fun e => by cases e), fun m hm => ?_⟩, hK.mono (fun k _ e => by rw [e]; exact h.av)⟩
  cases hm
  refine ⟨by rw [h.mnil rfl]; exact hM, by omega, fun ha => by have := hA mb ha; omega, fun b hx => ?_⟩
  have := (h.runs b).lt mb hx
  omega
theorem set1_some {nm : Nm} {Sh : Shs} {n : ByteArray} {a was : List UInt8 × Bool} (hg : getN nm n = some was) : set1 nm Sh n a = if was = a then (nm, Sh) else (delN nm n, remS Sh n was) := by
  unfold set1; rw [hg]
theorem set1_none {nm : Nm} {Sh : Shs} {n : ByteArray} {a : List UInt8 × Bool} (hg : getN nm n = none) : set1 nm Sh n a = (nm, Sh) := by
  unfold set1; rw [hg]
theorem remS_len {nm : Nm} {Sh : Shs} (h : SInv nm Sh) {n : ByteArray} {v : List UInt8 × Bool} (hg : getN nm n = some v) (b : Bool) : (remS Sh n v b).flatten.length ≤ (Sh b).flatten.length := by
  unfold remS
  by_cases hb : b = v.2
  · subst hb
    rw [upd_same]
    obtain ⟨_, hf, _, _⟩ := (h.inv v.2).take (h.key hg) (h.pair hg) (r := (pl2 (Sh v.2) v.1 n).1) (i := (pl2 (Sh v.2) v.1 n).2) rfl
    rw [hf]
    exact List.length_eraseIdx_le _ _
  · rw [upd_ne _ _ hb]; exact Nat.le_refl _
theorem set1_len {nm : Nm} {Sh : Shs} (h : SInv nm Sh) (n : ByteArray) (a : List UInt8 × Bool) (b : Bool) : ((set1 nm Sh n a).2 b).flatten.length ≤ (Sh b).flatten.length := by
  unfold set1
  cases hg : getN nm n with
  | none => exact Nat.le_refl _
  | some was =>
    simp only
    split
    · exact Nat.le_refl _
    · exact remS_len h hg b
theorem Inv.len {runs : List (List Slot)} (h : Inv runs) : runs.length ≤ runs.flatten.length := by
  have := h.runs_le
  unfold prs at this
  rwa [List.length_map] at this
end Go.Sx
namespace Go.Proofs.Try
open Go.Sx Go.Pl

theorem storeGetNone {A : Nat → Prop} {stb : Nat} {nm : Nm} {Sh : Shs} (n : ByteArray) (w : World) (hS : StoreAt A w stb nm Sh) (hg : getN nm n = none) :
    CallsV Try.prog 15 #[.pointer (some ⟨stb, 0, none⟩), .string n] w fun v w' => v = .tuple #[.agg zent.toArray, .bool false, .bool false] ∧ Ext w w' := by
  refine calls_intro (args := [_, _]) Try.func15 rfl Try.ntmps15 rfl ?_
  refine WC.seq ?_
  refine WC.region ?_
  refine WL.alloc zero35 rfl ?_
  intro b4 w4 hb4 ho4 hk4 hs4
  refine WL.step (ok_assign rfl) rfl ?_
  refine WL.step (ok_assign rfl) rfl ?_
  refine WL.nil ?_
  refine WX.thenC ?_
  refine WC.seq ?_
  refine WC.region ?_
  refine WL.step (ok_move rfl) rfl ?_
  refine WL.step (ok_move rfl) rfl ?_
  refine WL.call (ok_callF rfl isfn44) rfl (storeGetNoneM n _ (hS.ext hk4) hg) ?_
  rintro v w9 ⟨rfl, hE9⟩
  refine WL.step (ok_extract rfl rfl) rfl ?_
  refine WL.step (ok_extract rfl rfl) rfl ?_
  refine WL.step (ok_extract rfl rfl) rfl ?_
  refine WL.store rfl rfl sz35 (ho4.ext hE9) rfl (by decide) (zslot_one' rfl) ?_
  intro wr1 hor1 hkr1 hsr1
  have h4f : Own wr1 b4 35 zent := hor1
  refine WL.step (ok_assign rfl) rfl ?_
  refine WL.step (ok_assign rfl) rfl ?_
  refine WL.nil ?_
  refine WX.thenC ?_
  refine WC.ret ?_
  exact WX.retCTT (vs := zent) rfl rfl rfl rfl agg35 (by exact sz35) h4f.rd0 ⟨_, rfl, rfl, (hk4.trans hE9).over hkr1 (fun i hi e => by omega)⟩
theorem storeGetSome {A : Nat → Prop} {stb : Nat} {nm : Nm} {Sh : Shs} (n : ByteArray) (w : World) (hS : StoreAt A w stb nm Sh) (hI : SInv nm Sh) (hl : ∀ b, (Sh b).length ≤ 1048576) (k : List UInt8) (c : Bool) (hg : getN nm n = some (k, c)) :
    CallsV Try.prog 15 #[.pointer (some ⟨stb, 0, none⟩), .string n] w fun v w' => (∃ s ∈ (Sh c).flatten, OkSl s ∧ ps s = (k, n.toList) ∧ v = .tuple #[.agg s.ent.toArray, .bool c, .bool true]) ∧ Ext w w' := by
  refine calls_intro (args := [_, _]) Try.func15 rfl Try.ntmps15 rfl ?_
  refine WC.seq ?_
  refine WC.region ?_
  refine WL.alloc zero35 rfl ?_
  intro b4 w4 hb4 ho4 hk4 hs4
  refine WL.step (ok_assign rfl) rfl ?_
  refine WL.step (ok_assign rfl) rfl ?_
  refine WL.nil ?_
  refine WX.thenC ?_
  refine WC.seq ?_
  refine WC.region ?_
  refine WL.step (ok_move rfl) rfl ?_
  refine WL.step (ok_move rfl) rfl ?_
  refine WL.call (ok_callF rfl isfn44) rfl (storeGetSomeM n _ (hS.ext hk4) hI hl k c hg) ?_
  rintro v w9 ⟨⟨S, hSm, hokS, hSp, rfl⟩, hE9⟩
  have helen : S.ent.length = 22 := by simp [Slot.ent, hokS.1]
  refine WL.step (ok_extract rfl rfl) rfl ?_
  refine WL.step (ok_extract rfl rfl) rfl ?_
  refine WL.step (ok_extract rfl rfl) rfl ?_
  refine WL.store rfl rfl sz35 (ho4.ext hE9) (by simpa [Value.cells] using helen) (by simp [Value.cells, helen]) (ent_one hokS) ?_
  intro wr1 hor1 hkr1 hsr1
  have h4f : Own wr1 b4 35 S.ent := by
    have h := (show Own wr1 b4 35 (splice _ 0 S.ent) from hor1)
    rw [splice_all _ _ (by rw [helen]; rfl)] at h
    exact h
  refine WL.step (ok_assign rfl) rfl ?_
  refine WL.step (ok_assign rfl) rfl ?_
  refine WL.nil ?_
  refine WX.thenC ?_
  refine WC.ret ?_
  exact WX.retCTT (vs := S.ent) rfl rfl rfl rfl agg35 (by rw [helen]; exact sz35) h4f.rd0 ⟨_, rfl, ⟨S, hSm, hokS, hSp, rfl⟩, (hk4.trans hE9).over hkr1 (fun i hi e => by omega)⟩
theorem removeW {A : Nat → Prop} {stb : Nat} {nm : Nm} {Sh : Shs} (n : ByteArray) (w : World) (hS : StoreAt A w stb nm Sh) (hA : ∀ b, A b → b < w.heap.size) (hI : SInv nm Sh) (hl : ∀ b, (Sh b).flatten.length ≤ 1048576) (k : List UInt8) (c : Bool) (hg : getN nm n = some (k, c)) :
    CallsV Try.prog 52 #[.pointer (some ⟨stb, 0, none⟩), .string n] w fun v w' => StoreAt A w' stb (delN nm n) (remS Sh n (k, c)) ∧ Kp (fun k => ¬ A k) w w' := by
  obtain ⟨hd, mp, rs, g, hR, hsl⟩ := hS
  have hk := hI.key hg
  have hpm := hI.pair hg
  obtain ⟨mb, rfl⟩ : ∃ mb, mp = some mb := by
    cases mp with
    | none => rw [hR.mnil rfl] at hg; simp [getN] at hg
    | some mb => exact ⟨mb, rfl⟩
  refine calls_intro (args := [_, _]) Try.func52 rfl Try.ntmps52 rfl ?_
  refine WC.seq ?_
  refine WC.region ?_
  refine WL.step (ok_move rfl) rfl ?_
  refine WL.step (ok_nilCheck rfl) rfl ?_
  refine WL.step (ok_field rfl fld83_2) rfl ?_
  refine WL.step (ok_load rfl one81 (hR.own.cell 2)) rfl ?_
  refine WL.step (ok_move rfl) rfl ?_
  refine WL.step (ok_lookupM rfl rfl Try.underlying81 Try.underlying9 zero98' hR.nm) rfl ?_
  refine WL.rew 12 (.tuple #[.agg (kc k ++ [Value.bool c]).toArray, .bool true]) rfl (by rw [hg]; rfl) ?_
  refine WL.step (ok_move rfl) rfl ?_
  refine WL.step (ok_extract rfl rfl) rfl ?_
  refine WL.step (ok_extract rfl rfl) rfl ?_
  refine WL.alloc zero98 rfl ?_
  intro b4 w4 hb4 ho4 hk4 hs4
  refine WL.store rfl rfl sz98 (ho4) (by simp [Value.cells, hk]) (by simp [Value.cells, hk]) (encV_one (k, c)) ?_
  intro wr0 hor0 hkr0 hsr0
  have h4 : Own wr0 b4 98 (kc k ++ [Value.bool c]) := by
    have := hor0
    simp only [Value.cells, List.toList_toArray] at this
    rw [splice_all _ _ (by simp [hk])] at this
    exact this
  have hEr : Ext w wr0 := hk4.over hkr0 (fun i hi e => by omega)
  have hRr := hR.move (B := fun x => A x ∨ x = b4) hEr (fun x q => q.elim .inl (fun e => .inr (by omega)))
  refine WL.step (ok_assign rfl) rfl ?_
  refine WL.nil ?_
  refine WX.thenC ?_
  refine WC.seq ?_
  refine WC.region ?_
  refine WL.step (ok_move rfl) rfl ?_
  refine WL.nil ?_
  refine WX.thenC ?_
  refine WC.condTb rfl rfl ?_
  refine WC.seq ?_
  refine WC.region ?_
  refine WL.step (ok_move rfl) rfl ?_
  refine WL.step (ok_nilCheck rfl) rfl ?_
  refine WL.step (ok_field rfl fld83_2) rfl ?_
  refine WL.step (ok_load rfl one81 (hRr.own.cell 2)) rfl ?_
  refine WL.step (ok_move rfl) rfl ?_
  refine WL.delete rfl rfl Try.underlying81 Try.underlying9 (hRr.mat mb rfl).1 ?_
  intro w20 hM20 hK20 hs20
  obtain ⟨hR20, hKA20⟩ := hRr.setMap hM20 hK20
  have h420 : Own w20 b4 98 (kc k ++ [Value.bool c]) := hKA20.own h4 (fun q => q (.inr rfl))
  have hcb : w20.cell? ⟨b4, 0 + 20, none⟩ = some (.bool c) := by rw [h420.cell]; simp [List.getElem?_append, hk]
  have hSt : StoreAt (fun x => A x ∨ x = b4) w20 stb (delN nm n) Sh := ⟨_, _, _, _, hR20, hsl⟩
  have hb4l := h4.lt
  refine WL.nil ?_
  refine WX.thenC ?_
  refine WC.drawE [7] 4 [(0, true), (1, true), (2, true), (4, true), (5, true), (6, true), (3, false), (7, false)] mixed (by kernel_rfl) (fun hS => ?_)
  refine WO.quiet rfl (fun _ _ => ok_move rfl) hS rfl ?_
  refine WO.quiet rfl (fun _ _ => ok_field rfl fld98_1) hS rfl ?_
  refine WO.quiet rfl (fun _ hw => ok_load rfl one4 (Kp.cell hw (hcb) (fun f => f))) hS rfl ?_
  refine WO.quiet rfl (fun _ _ => ok_field rfl fld98_0) hS rfl ?_
  refine WO.quiet rfl (fun _ hw => ok_loadN rfl agg33 sz33 (by simp [hk]) (Rd.kp (h420.rd0.append_left) hw (fun f => f))) hS rfl ?_
  refine WO.quiet rfl (fun _ _ => ok_move rfl) hS rfl ?_
  refine WO.loudCall rfl (ok_callF rfl isfn46) rfl (storeShelf stb c _) ?_
  rintro v w24 ⟨rfl, rfl⟩
  refine ⟨(fun _ => hS), ?_⟩
  refine WO.loudCall rfl (ok_callF rfl isfn60) rfl (takeStore c k n hk _ (hSt.ext (Kp.drew _ _)) (fun b q => q.elim (fun q => by have := hA b q; have := hEr.size; simp only [World.size_drew]; omega) (fun q => by simp only [World.size_drew]; omega)) (hI.inv c) hpm (Nat.le_trans (hI.inv c).len (hl c))) ?_
  rintro v w28 ⟨hS28, hK28⟩
  refine ⟨(inL rfl), ?_⟩
  refine WO.nil ?_
  exact WX.end0 rfl ⟨_, rfl, hS28.move (Kp.refl _ _) (fun x q => .inl (.inl q)), ((Kp.of_ext hEr).trans (hKA20.mono (fun x _ q r => q (.inl r)))).trans ((Kp.drew _ _).trans (hK28.mono (fun x _ q r => q (.inl r))))⟩
set_option maxHeartbeats 1000000 in
theorem setW {A : Nat → Prop} {stb : Nat} {nm : Nm} {Sh : Shs} (k : List UInt8) (n : ByteArray) (vl : List UInt8) (a : Option Addr) (cap : Nat) (c : Bool) (hk : k.length = 20) (hn : n.size ≤ 1048576) (hv : vl.length ≤ 1048576) (w : World) (hB : BytesAt w a vl) (hBA : ∀ b off, a = some ⟨b, off, none⟩ → vl ≠ [] → A b)
    (hS : StoreAt A w stb nm Sh) (hA : ∀ b, A b → b < w.heap.size) (hI : SInv nm Sh) (hl : ∀ b, (Sh b).flatten.length ≤ 1048576) :
    CallsV Try.prog 43 #[.pointer (some ⟨stb, 0, none⟩), .agg (kc k ++ [Value.string n, .slice a vl.length cap]).toArray, .bool c] w fun v w' =>
      v = .tuple #[] ∧ StoreAt A w' stb (setS nm Sh (⟨k, n, .slice a vl.length cap, (term n.data.toList vl : Nat)⟩ : Slot) c).1 (setS nm Sh (⟨k, n, .slice a vl.length cap, (term n.data.toList vl : Nat)⟩ : Slot) c).2 ∧ Kp (fun k => ¬ A k) w w' := by
  have hel : (kc k ++ [Value.string n, .slice a vl.length cap]).length = 22 := by simp [hk]
  have hname : (kc k ++ [Value.string n, .slice a vl.length cap])[20]? = some (.string n) := by rw [List.getElem?_append_right (by simp [hk]), kc_length, hk]; rfl
  obtain ⟨lv, hlv, hlv21, hlv1, hlvw⟩ : ∃ lv : List Value, ((getN nm n).map encV).getD (.agg z98.toArray) = .agg lv.toArray ∧ lv.length = 21 ∧ (∀ u ∈ lv, u.oneCell' = true) ∧ (∀ v, getN nm n = some v → lv = kc v.1 ++ [Value.bool v.2]) := by
    cases hg : getN nm n with
    | none => exact ⟨z98, rfl, rfl, zslot_one' rfl, fun v h => by cases h⟩
    | some v => exact ⟨kc v.1 ++ [Value.bool v.2], rfl, encV_len (hI.key hg), encV_one v, fun u h => by cases h; rfl⟩
  refine calls_intro (args := [_, _, _]) Try.func43 rfl Try.ntmps43 rfl ?_
  refine WC.seq ?_
  refine WC.region ?_
  refine WL.box (c := kc k ++ [Value.string n, .slice a vl.length cap]) rfl rfl rfl ?_
  intro b4 w4 hb4 ho4 hk4 hs4
  refine WL.nil ?_
  refine WX.thenC ?_
  refine WC.seq ?_
  refine WC.region ?_
  refine WL.step (ok_field rfl fld35_0) rfl ?_
  refine WL.step (ok_loadN rfl agg33 sz33 (by simp [hk]) (ho4.rd0.append_left)) rfl ?_
  refine WL.step (ok_move rfl) rfl ?_
  refine WL.step (build98 hk rfl rfl) rfl ?_
  refine WL.alloc zero98 rfl ?_
  intro b6 w6 hb6 ho6 hk6 hs6
  refine WL.store rfl rfl sz98 (ho6) (by simp [encV, Value.cells, hk]) (by simp [encV, Value.cells, hk]) (encV_one (k, c)) ?_
  intro wr1 hor1 hkr1 hsr1
  have h6 : Own wr1 b6 98 (kc k ++ [Value.bool c]) := by
    have := hor1
    simp only [encV, Value.cells, List.toList_toArray] at this
    rw [splice_all _ _ (by simp [hk])] at this
    exact this
  have hEr : Ext w wr1 := (hk4.trans hk6).over hkr1 (fun i hi e => by omega)
  have h4 := hkr1.own (ho4.ext hk6) (by omega)
  have hS1 : StoreAt (fun x => A x ∨ x = b4 ∨ x = b6) wr1 stb nm Sh := hS.move hEr (fun x q => q.elim .inl (fun e => .inr (by omega)))
  obtain ⟨hd, mp, rs, g, hR1, hsl⟩ := hS1
  have hN1 := hR1.nm
  have hnm1 : wr1.cell? ⟨b4, 0 + 20, none⟩ = some (.string n) := by rw [h4.cell]; exact hname
  have hb6l := h6.lt
  have hz1 := hEr.size
  have hb4l := h4.lt
  have hA1 : ∀ b, (A b ∨ b = b4 ∨ b = b6) → b < wr1.heap.size := fun b q => q.elim (fun q => by have := hA b q; omega) (fun q => by omega)
  refine WL.nil ?_
  refine WX.thenC ?_
  refine WC.cut (fun _ : Nat => [(0, .pointer (some ⟨stb, 0, none⟩)), (2, .bool c), (4, .pointer (some ⟨b4, 0, none⟩)), (6, .pointer (some ⟨b6, 0, none⟩))])
    (fun _ w' => StoreAt (fun x => A x ∨ x = b4 ∨ x = b6) w' stb (set1 nm Sh n (k, c)).1 (set1 nm Sh n (k, c)).2 ∧ Kp (fun x => ¬ (A x ∨ x = b4 ∨ x = b6)) wr1 w') ?_ ?_
  ·
    refine WC.seq ?_
    refine WC.drawE [] 9 [(0, true), (1, true), (2, true), (3, true), (4, true), (5, true), (6, true), (7, true), (8, true), (9, true), (10, false), (11, false), (12, true)] mixed (by kernel_rfl) (fun hS => ?_)
    refine WO.quiet rfl (fun _ _ => ok_move rfl) hS rfl ?_
    refine WO.quiet rfl (fun _ _ => ok_nilCheck rfl) hS rfl ?_
    refine WO.quiet rfl (fun _ _ => ok_field rfl fld83_2) hS rfl ?_
    refine WO.quiet rfl (fun _ hw => ok_load rfl one81 (Kp.cell hw (hR1.own.cell 2) (fun f => f))) hS rfl ?_
    refine WO.quiet rfl (fun _ _ => ok_field rfl fld35_1) hS rfl ?_
    refine WO.quiet rfl (fun _ hw => ok_load rfl one9 (Kp.cell hw (hnm1) (fun f => f))) hS rfl ?_
    refine WO.quiet rfl (fun _ hw => ok_lookupM rfl rfl Try.underlying81 Try.underlying9 zero98' (hN1.ext hw)) hS rfl ?_
    refine WO.rew 20 (.tuple #[.agg lv.toArray, .bool (getN nm n).isSome]) rfl (by rw [hlv]) ?_
    refine WO.quiet rfl (fun _ _ => ok_move rfl) hS rfl ?_
    refine WO.quiet rfl (fun _ _ => ok_extract rfl rfl) hS rfl ?_
    refine WO.quiet rfl (fun _ _ => ok_extract rfl rfl) hS rfl ?_
    refine WO.alloc rfl zero98 rfl ?_
    intro b7 w7 hb7 ho7 hk7 hs7
    refine ⟨(fun _ => hS.trans hk7), ?_⟩
    have hS := hS.trans hk7
    refine WO.store rfl rfl rfl sz98 (ho7) (by simpa [Value.cells] using hlv21) (by simp [Value.cells, hlv21]) (by simpa [Value.cells] using hlv1) ?_
    intro wr2 hor2 hkr2 hsr2
    refine ⟨(fun _ => hS.over hkr2 (fun i hi e => by simp only [World.size_drew] at *; omega)), ?_⟩
    have hS := hS.over hkr2 (fun i hi e => by simp only [World.size_drew] at *; omega)
    have h7 : Own wr2 b7 98 lv := by
      have h := (show Own wr2 b7 98 (splice _ 0 lv) from hor2)
      rw [splice_all _ _ (by rw [hlv21]; rfl)] at h
      exact h
    have hE2 : Ext wr1 wr2 := hS
    have hR2 := hR1.move (B := fun x => A x ∨ x = b4 ∨ x = b6) hE2 (fun _ q => .inl q)
    have h42 := h4.ext hE2
    have h62 := h6.ext hE2
    have hz2 := hE2.size
    have hA2 : ∀ b, (A b ∨ b = b4 ∨ b = b6) → b < wr2.heap.size := fun b q => q.elim (fun q => by have := hA b q; omega) (fun q => by omega)
    have hnm2 : wr2.cell? ⟨b4, 0 + 20, none⟩ = some (.string n) := by rw [h42.cell]; exact hname
    refine WO.quiet rfl (fun _ _ => ok_assign rfl) hS rfl ?_
    refine WO.nil ?_
    refine WX.thenC ?_
    refine WC.seq ?_
    refine WC.region ?_
    refine WL.step (ok_move rfl) rfl ?_
    refine WL.step (ok_move rfl) rfl ?_
    refine WL.splitB 24 rfl (fun hb24 => ?_) (fun hb24 => ?_)
    ·
      obtain ⟨was, hwas⟩ := Option.isSome_iff_exists.1 hb24
      refine WL.on rfl rfl ?_
      refine WL.step (ok_loadN rfl agg98 sz98 hlv21 (h7.rd0)) rfl ?_
      refine WL.rew 25 (encV was) rfl (by rw [hlvw was hwas]; rfl) ?_
      refine WL.on rfl rfl ?_
      refine WL.step (ok_loadN rfl agg98 sz98 (by simp [hk]) (h62.rd0)) rfl ?_
      refine WL.on rfl rfl ?_
      refine WL.step (neq98 (a := was) (b := (k, c)) rfl rfl (hI.key hwas) hk) rfl ?_
      refine WL.step (ok_pickT rfl rfl) rfl ?_
      refine WL.nil ?_
      refine WX.thenC ?_
      refine WC.cond rfl (fun hc28 => ?_) (fun hc28 => ?_)
      ·
        have hne : was ≠ (k, c) := by simpa using hc28
        refine WC.region ?_
        refine WL.step (ok_move rfl) rfl ?_
        refine WL.step (ok_field rfl fld35_1) rfl ?_
        refine WL.step (ok_load rfl one9 (hnm2)) rfl ?_
        refine WL.call (ok_callF rfl isfn52) rfl (removeW n _ ⟨_, _, _, _, hR2, hsl⟩ hA2 hI hl was.1 was.2 hwas) ?_
        rintro v w32 ⟨hS32, hK32⟩
        refine WL.nil ?_
        exact WX.again 0 (by repeat (first | exact trivial | refine ⟨rfl, ?_⟩)) ⟨by rw [set1_some hwas, if_neg hne]; exact hS32, (Kp.of_ext hE2).trans hK32⟩ Nat.zero_lt_one
      ·
        have hne : was = (k, c) := by simpa using hc28
        refine WC.skip ?_
        exact WX.again 0 (by repeat (first | exact trivial | refine ⟨rfl, ?_⟩)) ⟨by rw [set1_some hwas, if_pos hne]; exact ⟨_, _, _, _, hR2, hsl⟩, Kp.of_ext hE2⟩ Nat.zero_lt_one
    ·
      have hgn : getN nm n = none := by cases hq : getN nm n with | none => rfl | some v => rw [hq] at hb24; cases hb24
      refine WL.off rfl rfl rfl rfl ?_
      refine WL.off rfl rfl rfl rfl ?_
      refine WL.off rfl rfl rfl rfl ?_
      refine WL.step (ok_pickF rfl rfl) rfl ?_
      refine WL.nil ?_
      refine WX.thenC ?_
      refine WC.condFb rfl rfl ?_
      refine WC.skip ?_
      exact WX.again 0 (by repeat (first | exact trivial | refine ⟨rfl, ?_⟩)) ⟨by rw [set1_none hgn]; exact ⟨_, _, _, _, hR2, hsl⟩, Kp.of_ext hE2⟩ Nat.zero_lt_one
  ·
    rintro _ w5 ⟨⟨hd5, mp5, rs5, g5, hR5, hsl5⟩, hK5⟩
    have h45 := hK5.own h4 (fun q => q (.inr (.inl rfl)))
    have h65 := hK5.own h6 (fun q => q (.inr (.inr rfl)))
    have hz5 := hK5.size
    have hA5 : ∀ b, (A b ∨ b = b4 ∨ b = b6) → b < w5.heap.size := fun b q => Nat.lt_of_lt_of_le (hA1 b q) hz5
    have hK5A : Kp (fun k => ¬ A k) w w5 := (Kp.of_ext hEr).trans (hK5.mono (fun x _ q r => q (.inl r)))
    refine WC.cut (fun _ : Nat => [(0, .pointer (some ⟨stb, 0, none⟩)), (2, .bool c), (4, .pointer (some ⟨b4, 0, none⟩)), (6, .pointer (some ⟨b6, 0, none⟩))])
      (fun _ w' => (∃ hd mb rs g, StR (fun x => A x ∨ x = b4 ∨ x = b6) w' stb (set1 nm Sh n (k, c)).1 hd (some mb) rs g ∧ ∀ b, slots (rs b) = (set1 nm Sh n (k, c)).2 b) ∧ Kp (fun x => ¬ (A x ∨ x = b4 ∨ x = b6)) w5 w') ?_ ?_
    ·
      refine WC.seq ?_
      refine WC.region ?_
      refine WL.step (ok_move rfl) rfl ?_
      refine WL.step (ok_nilCheck rfl) rfl ?_
      refine WL.step (ok_field rfl fld83_2) rfl ?_
      refine WL.step (ok_load rfl one81 (hR5.own.cell 2)) rfl ?_
      refine WL.step (ok_eqlMapNil rfl Try.underlying81) rfl ?_
      refine WL.nil ?_
      refine WX.thenC ?_
      refine WC.cond rfl (fun hc37 => ?_) (fun hc37 => ?_)
      ·
        obtain rfl : mp5 = none := by cases mp5 with | none => rfl | some x => simp at hc37
        refine WC.region ?_
        refine WL.step (ok_move rfl) rfl ?_
        refine WL.makeMap rfl ?_
        intro b39 w39 hb39 hM39 hk39 hs39
        refine WL.step (ok_nilCheck rfl) rfl ?_
        refine WL.step (ok_field rfl fld83_2) rfl ?_
        refine WL.store rfl rfl sz81 (hR5.own.ext hk39) (by simp [Value.cells]) (by simp [Value.cells]) (by simp [Value.cells, Value.oneCell']) ?_
        intro wr6 hor6 hkr6 hsr6
        have hOm : Own wr6 stb 83 [hd5 false, hd5 true, .map (some b39)] := hor6
        obtain ⟨hR6, hK6⟩ := hR5.withMap hOm (hM39.kp hkr6 (by have := hR5.own.lt; omega)) (by omega) ((Kp.of_ext hk39).trans hkr6) hA5
        refine WL.nil ?_
        exact WX.again 0 (by repeat (first | exact trivial | refine ⟨rfl, ?_⟩)) ⟨⟨_, _, _, _, hR6, hsl5⟩, hK6⟩ Nat.zero_lt_one
      ·
        obtain ⟨mb, rfl⟩ : ∃ mb, mp5 = some mb := by cases mp5 with | none => simp at hc37 | some x => exact ⟨x, rfl⟩
        refine WC.skip ?_
        exact WX.again 0 (by repeat (first | exact trivial | refine ⟨rfl, ?_⟩)) ⟨⟨_, _, _, _, hR5, hsl5⟩, Kp.refl _ _⟩ Nat.zero_lt_one
    ·
      rintro _ w7 ⟨⟨hd7, mb, rs7, g7, hR7, hsl7⟩, hK57⟩
      have h47 := hK57.own h45 (fun q => q (.inr (.inl rfl)))
      have h67 := hK57.own h65 (fun q => q (.inr (.inr rfl)))
      have hA7 : ∀ b, (A b ∨ b = b4 ∨ b = b6) → b < w7.heap.size := fun b q => Nat.lt_of_lt_of_le (hA5 b q) hK57.size
      have hK7 : Kp (fun k => ¬ A k) w w7 := hK5A.trans (hK57.mono (fun x _ q r => q (.inl r)))
      have hnm7 : w7.cell? ⟨b4, 0 + 20, none⟩ = some (.string n) := by rw [h47.cell]; exact hname
      refine WC.seq ?_
      refine WC.drawE [7] 5 [(0, true), (1, true), (2, true), (3, true), (4, true), (5, true), (6, true), (7, false)] mixed (by kernel_rfl) (fun hS => ?_)
      refine WO.quiet rfl (fun _ _ => ok_move rfl) hS rfl ?_
      refine WO.quiet rfl (fun _ _ => ok_nilCheck rfl) hS rfl ?_
      refine WO.quiet rfl (fun _ _ => ok_field rfl fld83_2) hS rfl ?_
      refine WO.quiet rfl (fun _ hw => ok_load rfl one81 (Kp.cell hw (hR7.own.cell 2) (fun f => f))) hS rfl ?_
      refine WO.quiet rfl (fun _ _ => ok_field rfl fld35_1) hS rfl ?_
      refine WO.quiet rfl (fun _ hw => ok_load rfl one9 (Kp.cell hw (hnm7) (fun f => f))) hS rfl ?_
      refine WO.quiet rfl (fun _ hw => ok_loadN rfl agg98 sz98 (by simp [hk]) (Rd.kp (h67.rd0) hw (fun f => f))) hS rfl ?_
      refine WO.mapUpdate (v := (k, c)) rfl rfl rfl rfl Try.underlying81 Try.underlying9 ((hR7.mat mb rfl).1.ext (Kp.drew _ _)) ?_
      intro w8 hM8 hK8 hs8
      refine ⟨inL rfl, ?_⟩
      obtain ⟨hR8, hKA8⟩ := (hR7.move (B := fun x => A x ∨ x = b4 ∨ x = b6) (Kp.drew _ _) (fun _ q => .inl q)).setMap hM8 hK8
      have h48 := hKA8.own h47.drew (fun q => q (.inr (.inl rfl)))
      have hSt8 : StoreAt (fun x => A x ∨ x = b4 ∨ x = b6) w8 stb (setN (set1 nm Sh n (k, c)).1 n (k, c)) (set1 nm Sh n (k, c)).2 := ⟨_, _, _, _, hR8, hsl7⟩
      have hA8 : ∀ b, (A b ∨ b = b4 ∨ b = b6) → b < w8.heap.size := fun b q => by have := hA7 b q; simp only [World.size_drew] at hs8; omega
      have hK8A : Kp (fun k => ¬ A k) w w8 := (hK7.trans (Kp.drew _ _)).trans (hKA8.mono (fun x _ q r => q (.inl r)))
      refine WO.nil ?_
      refine WX.thenC ?_
      have hB8 : BytesAt w8 a vl := fun hne => by
        obtain ⟨b, off, q1, q2⟩ := hB hne
        exact ⟨b, off, q1, q2.kp hK8A (fun q => q (hBA b off q1 hne))⟩
      have hI1 := (set1_inv hI n (k, c)).1
      refine WC.drawE [7] 5 [(0, true), (1, true), (3, true), (4, true), (2, false), (5, false), (6, true), (7, false)] mixed (by kernel_rfl) (fun hS => ?_)
      refine WO.quiet rfl (fun _ _ => ok_move rfl) hS rfl ?_
      refine WO.quiet rfl (fun _ _ => ok_move rfl) hS rfl ?_
      refine WO.quiet rfl (fun _ hw => ok_loadN rfl agg35 sz35 hel (Rd.kp (h48.rd0) hw (fun f => f))) hS rfl ?_
      refine WO.quiet rfl (fun _ hw => ok_loadN rfl agg35 sz35 hel (Rd.kp (h48.rd0) hw (fun f => f))) hS rfl ?_
      refine WO.loudCall rfl (ok_callF rfl isfn46) rfl (storeShelf stb c _) ?_
      rintro v w51 ⟨rfl, rfl⟩
      refine ⟨(fun _ => hS), ?_⟩
      refine WO.loudCall rfl (ok_callF rfl isfn48) rfl (termOf k n vl a cap hk hn hv _ (hB8.ext (Kp.drew _ _))) ?_
      rintro v w54 ⟨rfl, hE54⟩
      refine ⟨(fun _ => hS.trans hE54), ?_⟩
      have hS := hS.trans hE54
      refine WO.quiet rfl (fun _ _ => build54 hel rfl rfl) hS rfl ?_
      refine WO.rew 55 (.agg (Slot.cells ⟨k, n, .slice a vl.length cap, (term n.data.toList vl : Nat)⟩).toArray) rfl (by simp [Slot.cells]) ?_
      refine WO.loudCall rfl (ok_callF rfl isfn47) rfl (putStore c (⟨k, n, .slice a vl.length cap, (term n.data.toList vl : Nat)⟩ : Slot) _ (hSt8.ext hS) (fun b q => Nat.lt_of_lt_of_le (hA8 b q) hS.size) ⟨hk, rfl⟩ (hI1.inv c) (Nat.le_trans (hI1.inv c).len (Nat.le_trans (set1_len hI n (k, c) c) (hl c)))) ?_
      rintro v w56 ⟨rfl, hS56, hK56⟩
      refine ⟨(inL rfl), ?_⟩
      refine WO.nil ?_
      exact WX.end0 rfl ⟨_, rfl, rfl, hS56.move (Kp.refl _ _) (fun x q => .inl (.inl q)), (hK8A.trans (Kp.of_ext hS)).trans (hK56.mono (fun x _ q r => q (.inl r)))⟩
theorem storeSet {A : Nat → Prop} {stb : Nat} {nm : Nm} {Sh : Shs} (k : List UInt8) (n : ByteArray) (vl : List UInt8) (a : Option Addr) (cap : Nat) (c : Bool) (hk : k.length = 20) (hn : n.size ≤ 1048576) (hv : vl.length ≤ 1048576) (w : World) (hB : BytesAt w a vl) (hBA : ∀ b off, a = some ⟨b, off, none⟩ → vl ≠ [] → A b)
    (hS : StoreAt A w stb nm Sh) (hA : ∀ b, A b → b < w.heap.size) (hI : SInv nm Sh) (hl : ∀ b, (Sh b).flatten.length ≤ 1048576) :
    CallsV Try.prog 13 #[.pointer (some ⟨stb, 0, none⟩), .agg (kc k ++ [Value.string n, .slice a vl.length cap]).toArray, .bool c] w fun v w' =>
      v = .tuple #[] ∧ StoreAt A w' stb (setS nm Sh (⟨k, n, .slice a vl.length cap, (term n.data.toList vl : Nat)⟩ : Slot) c).1 (setS nm Sh (⟨k, n, .slice a vl.length cap, (term n.data.toList vl : Nat)⟩ : Slot) c).2 ∧ Kp (fun k => ¬ A k) w w' := by
  have hel : (kc k ++ [Value.string n, .slice a vl.length cap]).length = 22 := by simp [hk]
  refine calls_intro (args := [_, _, _]) Try.func13 rfl Try.ntmps13 rfl ?_
  refine WC.seq ?_
  refine WC.region ?_
  refine WL.box (c := kc k ++ [Value.string n, .slice a vl.length cap]) rfl rfl rfl ?_
  intro b4 w4 hb4 ho4 hk4 hs4
  refine WL.nil ?_
  refine WX.thenC ?_
  refine WC.region ?_
  refine WL.step (ok_move rfl) rfl ?_
  refine WL.step (ok_loadN rfl agg35 sz35 hel (ho4.rd0)) rfl ?_
  refine WL.step (ok_move rfl) rfl ?_
  refine WL.call (ok_callF rfl isfn43) rfl (setW k n vl a cap c hk hn hv _ (hB.ext hk4) hBA (hS.ext hk4) (fun b q => Nat.lt_of_lt_of_le (hA b q) hk4.size) hI hl) ?_
  rintro v w9 ⟨rfl, hS9, hK9⟩
  refine WL.nil ?_
  exact WX.end0 rfl ⟨_, rfl, rfl, hS9, (Kp.of_ext hk4).trans hK9⟩

end Go.Proofs.Try
