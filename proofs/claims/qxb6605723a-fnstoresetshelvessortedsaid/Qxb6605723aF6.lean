/- Walk: the law of find. -/
import Derived.Test.Qxb6605723aLaw
set_option linter.unusedVariables false
set_option linter.unusedSimpArgs false
set_option maxRecDepth 100000
namespace Go.Sx
open Go.Pl

/-- A slice of items, all of it below lo. -/
def ItL (lo : Nat) (w : World) (a : Option Addr) (l : List Itm) : Prop := l ≠ [] → ∃ b off, a = some ⟨b, off, none⟩ ∧ b < lo ∧ Rd w b off (encI l)
theorem ItemsAt.low {w : World} {a : Option Addr} {l : List Itm} (h : ItemsAt w a l) (ho : OkI l) : ItL w.heap.size w a l := fun hne => by
  obtain ⟨b, off, h1, h2⟩ := h hne
  refine ⟨b, off, h1, ?_, h2⟩
  cases l with
  | nil => exact absurd rfl hne
  | cons x l =>
    have := h2 0 ((encI (x :: l))[0]'(by rw [encI_length ho]; simp)) (List.getElem?_eq_getElem _)
    exact block_lt_of_cell this
theorem ItL.kp {lo : Nat} {w w' : World} {a : Option Addr} {l : List Itm} (h : ItL lo w a l) (k : Kp (lo ≤ ·) w w') : ItL lo w' a l := fun hne => by
  obtain ⟨b, off, h1, h2, h3⟩ := h hne
  exact ⟨b, off, h1, h2, h3.kp k (by omega)⟩
theorem ItL.at {lo : Nat} {w : World} {a : Option Addr} {l : List Itm} (h : ItL lo w a l) : ItemsAt w a l := fun hne => by
  obtain ⟨b, off, h1, h2, h3⟩ := h hne
  exact ⟨b, off, h1, h3⟩
theorem ShL.new {lo : Nat} {w : World} {sb : Nat} (h : Own w sb 80 [.slice none 0 0]) (hlo : lo ≤ sb) : ShL lo w sb [] :=
  ⟨_, [], none, h, ⟨.inl ⟨rfl, rfl, rfl, rfl⟩, by simp, by simp [fp]⟩, by simp [fp], rfl, hlo, by simp [fp]⟩
theorem map_take_succ (l : List Itm) (j : Nat) (hj : j < l.length) : (l.take (j + 1)).map pk = (l.take j).map pk ++ [pk l[j]] := by
  rw [List.take_succ_eq_append_getElem hj, List.map_append]; rfl
theorem nc_take_succ (l : List Nat) (j : Nat) (hj : j < l.length) (rest : List Value) (m : Nat) (hm : m = l[j]) : splice (nc (l.take j) ++ rest) (0 + j * 1) [.int .i64 (m : Nat)] = nc (l.take (j + 1)) ++ rest.drop 1 := by
  rw [splice_mid _ _ _ _ (by simp; omega), List.take_succ_eq_append_getElem hj, hm]
  simp only [nc, List.map_append, List.map_cons, List.map_nil, List.append_assoc, List.length_cons, List.length_nil]
theorem cntLen {α : Type} {L t : List α} {x : α} {d N : Nat} (h : L = x :: t) (hd : d + L.length = N) : d + 1 + t.length = N := by rw [h, List.length_cons] at hd; omega
theorem cntPos {α : Type} {L t : List α} {x : α} {d N : Nat} {p : α → Bool} (h : L = x :: t) (hp : p x = true) (hd : d + L.countP p = N) : d + 1 + t.countP p = N := by rw [h, List.countP_cons_of_pos hp] at hd; omega
theorem cntNeg {α : Type} {L t : List α} {x : α} {d N : Nat} {p : α → Bool} (h : L = x :: t) (hp : p x = false) (hd : d + L.countP p = N) : d + t.countP p = N := by rw [h, List.countP_cons_of_neg (by rw [hp]; decide)] at hd; omega
end Go.Sx
namespace Go.Proofs.Try
open Go.Sx Go.Pl

set_option maxHeartbeats 1000000 in
theorem lawFind (l : List Itm) (ho : OkI l) (a : Option Addr) (cap : Nat) (k : List UInt8) (n : ByteArray) (hk : k.length = 20) (w : World) (hI : ItemsAt w a l) :
    CallsV Try.prog 6 #[.slice a l.length cap, .agg (kc k).toArray, .string n] w fun v w' => v = .bool true ∧ Ext w w' := by
  refine calls_intro (args := [_, _, _]) Try.func6 rfl Try.ntmps6 rfl ?_
  refine WC.seq ?_
  refine WC.region ?_
  refine WL.box (c := kc k) rfl rfl rfl ?_
  intro b4 w4 hb4 ho4 hk4 hs4
  refine WL.step (ok_assign rfl) rfl ?_
  refine WL.nil ?_
  refine WX.thenC ?_
  refine WC.seq ?_
  refine WC.seq ?_
  refine WC.region ?_
  refine WL.step (ok_move rfl) rfl ?_
  refine WL.step (ok_loadN rfl agg29 sz29 (by simp [hk]) (ho4.rd0)) rfl ?_
  refine WL.step (ok_move rfl) rfl ?_
  refine WL.call (ok_callF rfl isfn35) rfl (bytesFind l ho a cap _ n _ (hI.ext hk4)) ?_
  rintro v w25 ⟨⟨z25, rfl, hz25⟩, hE25⟩
  refine WL.step (ok_not rfl) rfl ?_
  refine WL.nil ?_
  refine WX.thenC ?_
  refine WC.cond rfl (fun hc26 => ?_) (fun hc26 => ?_)
  ·
    refine WC.seq ?_
    refine WC.region ?_
    refine WL.step (ok_assign rfl) rfl ?_
    refine WL.nil ?_
    refine WX.thenC ?_
    refine WC.ret ?_
    refine WX.thenR ?_
    exact WX.ret1 rfl rfl ⟨_, rfl, rfl, hk4.trans hE25⟩
  ·
    have hz := hz25 (by simpa using hc26)
    obtain ⟨hnm, hnx⟩ := hz
    refine WC.skip ?_
    refine WX.thenC ?_
    refine WC.seq ?_
    refine WC.seq ?_
    refine WC.region ?_
    refine WL.step (ok_move rfl) rfl ?_
    refine WL.step (ok_lenSlice rfl Try.underlying57) rfl ?_
    refine WL.step (ok_gtr rfl rfl) rfl ?_
    refine WL.step (ok_move rfl) rfl ?_
    refine WL.splitB 30 rfl (fun hb30 => ?_) (fun hb30 => ?_)
    ·
      refine WL.off rfl rfl rfl rfl ?_
      refine WL.off rfl rfl rfl rfl ?_
      refine WL.off rfl rfl rfl rfl ?_
      refine WL.step (ok_pickT rfl rfl) rfl ?_
      refine WL.nil ?_
      refine WX.thenC ?_
      refine WC.condTb rfl rfl ?_
      refine WC.seq ?_
      refine WC.region ?_
      refine WL.step (ok_assign rfl) rfl ?_
      refine WL.nil ?_
      refine WX.thenC ?_
      refine WC.ret ?_
      refine WX.thenR ?_
      exact WX.ret1 rfl rfl ⟨_, rfl, rfl, hk4.trans hE25⟩
    ·
      have hn4 : l.length ≤ 4096 := by have := of_decide_eq_false hb30; omega
      refine WL.on rfl rfl ?_
      refine WL.step (ok_move rfl) rfl ?_
      refine WL.on rfl rfl ?_
      refine WL.step (ok_lenString rfl Try.underlying9) rfl ?_
      refine WL.on rfl rfl ?_
      refine WL.step (ok_gtr rfl rfl) rfl ?_
      refine WL.step (ok_pickF rfl rfl) rfl ?_
      refine WL.nil ?_
      refine WX.thenC ?_
      refine WC.cond rfl (fun hc34 => ?_) (fun hc34 => ?_)
      ·
        refine WC.seq ?_
        refine WC.region ?_
        refine WL.step (ok_assign rfl) rfl ?_
        refine WL.nil ?_
        refine WX.thenC ?_
        refine WC.ret ?_
        refine WX.thenR ?_
        exact WX.ret1 rfl rfl ⟨_, rfl, rfl, hk4.trans hE25⟩
      ·
        refine WC.skip ?_
        refine WX.thenC ?_
        refine WC.seq ?_
        refine WC.seq ?_
        refine WC.region ?_
        refine WL.step (ok_move rfl) rfl ?_
        refine WL.call (ok_callF rfl isfn28) rfl (itemsBytes l ho a cap (by omega) _ ((hI.ext hk4).ext hE25)) ?_
        rintro v w36 ⟨⟨z36, rfl⟩, hw36⟩
        subst hw36
        refine WL.step (ok_move rfl) rfl ?_
        refine WL.step (ok_lenString rfl Try.underlying9) rfl ?_
        refine WL.step (ok_addW rfl rfl) rfl ?_
        refine WL.step (ok_gtr rfl rfl) rfl ?_
        refine WL.nil ?_
        refine WX.thenC ?_
        refine WC.cond rfl (fun hc40 => ?_) (fun hc40 => ?_)
        ·
          refine WC.seq ?_
          refine WC.region ?_
          refine WL.step (ok_assign rfl) rfl ?_
          refine WL.nil ?_
          refine WX.thenC ?_
          refine WC.ret ?_
          refine WX.thenR ?_
          exact WX.ret1 rfl rfl ⟨_, rfl, rfl, hk4.trans hE25⟩
        ·
          refine WC.skip ?_
          refine WX.thenC ?_
          refine WC.seq ?_
          refine WC.region ?_
          refine WL.step (ok_move rfl) rfl ?_
          refine WL.call (ok_callF rfl isfn29) rfl (cloneItems l ho a cap hn4 _ ((hI.ext hk4).ext hE25)) ?_
          rintro v w42 ⟨a', cap', rfl, hI42, hfr42, hE42⟩
          have hEw42 : Ext w w42 := (hk4.trans hE25).trans hE42
          have h42 := (ho4.ext hE25).ext hE42
          obtain ⟨lo, hlo⟩ : ∃ lo, lo = w42.heap.size := ⟨_, rfl⟩
          have hT42 := hI42.low ho
          rw [← hlo] at hT42
          have hb4l : b4 < lo := by rw [hlo]; exact h42.lt
          have hwlo : w.heap.size ≤ lo := by rw [hlo]; exact hEw42.size
          refine WL.step (ok_assign rfl) rfl ?_
          refine WL.nil ?_
          refine WX.thenC ?_
          refine WC.seq ?_
          refine WC.region ?_
          refine WL.call (ok_callF rfl isfn30) rfl (newShelf _) ?_
          rintro v w43 ⟨sb, rfl, hsb, hO43, hE43⟩
          have hS0 : ShL lo w43 sb [] := ShL.new hO43 (by omega)
          have hlo43 : lo ≤ w43.heap.size := by rw [hlo]; exact hE43.size
          refine WL.step (ok_assign rfl) rfl ?_
          refine WL.nil ?_
          refine WX.thenC ?_
          refine WC.seq ?_
          refine WC.seq ?_
          refine WC.region ?_
          refine WL.step (ok_assign rfl) rfl ?_
          refine WL.nil ?_
          refine WX.thenC ?_
          refine WC.block ?_
          refine WC.loop (fun j : Nat => [(0, .slice a' l.length cap'), (2, .string n), (4, .pointer (some ⟨b4, 0, none⟩)), (7, .pointer (some ⟨sb, 0, none⟩)), (8, .int .i64 (j : Nat))])
            (fun j w' => j ≤ l.length ∧ ∃ runs, ShL lo w' sb runs ∧ Fil runs ((l.take j).map pk) ∧ Kp (lo ≤ ·) w43 w') (fun j => l.length - j) 0 (by repeat (first | exact trivial | refine ⟨rfl, ?_⟩)) ?_ ?_
          · exact ⟨by omega, [], hS0, by simpa using Fil.nil, Kp.refl _ _⟩
          rintro j w2 ⟨hjn, runs, hSh, hF, hK⟩
          have hT2 := (hT42.kp (Kp.of_ext hE43)).kp hK
          have hI1 := hT2.at
          have h4b := hK.own (h42.ext hE43) (by omega)
          have hE0 : Ext w w2 := (hEw42.trans hE43).over hK (fun i hi e => by omega)
          refine WC.seq ?_
          refine WC.seq ?_
          refine WC.region ?_
          refine WL.step (ok_move rfl) rfl ?_
          refine WL.step (ok_move rfl) rfl ?_
          refine WL.step (ok_lenSlice rfl Try.underlying57) rfl ?_
          refine WL.step (ok_lss rfl rfl) rfl ?_
          refine WL.nil ?_
          refine WX.thenC ?_
          refine WC.cond rfl (fun hc47 => ?_) (fun hc47 => ?_)
          ·
            have hlt : j < l.length := by have := of_decide_eq_true hc47; omega
            have hrn : runs.length ≤ 1048576 := by have := hF.inv.runs_le; have := hF.len; simp at this; omega
            obtain ⟨b, off, rfl, hr⟩ := hI1.at hlt
            refine WC.skip ?_
            refine WX.thenC ?_
            refine WC.seq ?_
            refine WC.block ?_
            refine WC.drawE [12] 6 [(0, true), (1, true), (2, true), (3, true), (4, true), (5, true), (6, true), (7, true), (8, true), (9, true), (10, true), (11, true), (12, false)] mixed (by kernel_rfl) (fun hS => ?_)
            refine WO.quiet rfl (fun _ _ => ok_move rfl) hS rfl ?_
            refine WO.quiet rfl (fun _ _ => ok_move rfl) hS rfl ?_
            refine WO.quiet rfl (fun _ _ => ok_move rfl) hS rfl ?_
            refine WO.quiet rfl (fun _ _ => ok_indexS _ rfl rfl rfl (by omega) Try.underlying57 sz64) hS rfl ?_
            refine WO.quiet rfl (fun _ _ => ok_field rfl fld64_0) hS rfl ?_
            refine WO.quiet rfl (fun _ hw => ok_loadN rfl agg29 sz29 (by simp [ho _ (List.getElem_mem hlt)]) (Rd.kp (rd_key hr ho j hlt) hw (fun f => f))) hS rfl ?_
            refine WO.quiet rfl (fun _ _ => ok_move rfl) hS rfl ?_
            refine WO.quiet rfl (fun _ _ => ok_move rfl) hS rfl ?_
            refine WO.quiet rfl (fun _ _ => ok_indexS _ rfl rfl rfl (by omega) Try.underlying57 sz64) hS rfl ?_
            refine WO.quiet rfl (fun _ _ => ok_field rfl fld64_1) hS rfl ?_
            refine WO.quiet rfl (fun _ hw => ok_load rfl one9 (Kp.cell hw (rd_name hr ho j hlt) (fun f => f))) hS rfl ?_
            refine WO.quiet rfl (fun _ _ => build35 (ho _ (List.getElem_mem hlt)) rfl rfl) hS rfl ?_
            refine WO.loudCall rfl (ok_callF rfl isfn31) rfl (shelfPut l[j].key l[j].name [] none 0 (ho _ (List.getElem_mem hlt)) (hnm _ (List.getElem_mem hlt)) (by simp) _ (fun h => absurd rfl h) (hSh.ext (Kp.drew _ _)) (Nat.le_trans hlo43 hK.size) (hF.inv.mono (ho _ (List.getElem_mem hlt)) _) hF.inv.ne hF.inv.le hrn) ?_
            rintro v w62 ⟨rfl, hS62, hK62⟩
            refine ⟨(inL rfl), ?_⟩
            refine WO.nil ?_
            refine WX.blockN ?_
            refine WX.thenC ?_
            refine WC.region ?_
            refine WL.step (ok_move rfl) rfl ?_
            refine WL.step (ok_add ((j + 1 : Nat) : Int) rfl rfl (by omega) (by omega) (by omega)) rfl ?_
            refine WL.step (ok_assign rfl) rfl ?_
            refine WL.nil ?_
            exact WX.again (j + 1) (by repeat (first | exact trivial | refine ⟨rfl, ?_⟩)) ⟨by omega, _, hS62, by rw [map_take_succ l j hlt]; exact hF.put _ (ho _ (List.getElem_mem hlt)), (hK.trans (Kp.drew _ _)).trans hK62⟩ (by omega)
          ·
            have hge : j = l.length := by have := of_decide_eq_false hc47; omega
            have hF1 : Fil runs (l.map pk) := by rw [hge, List.take_length] at hF; exact hF
            have hdl := ded_length_le (l.map pk)
            rw [List.length_map] at hdl
            refine WC.exit ?_
            refine WX.thenE ?_
            refine WX.thenE ?_
            refine WX.blockHit ?_
            refine WX.thenC ?_
            refine WC.seq ?_
            refine WC.region ?_
            refine WL.step (ok_assign rfl) rfl ?_
            refine WL.nil ?_
            refine WX.thenC ?_
            refine WC.seq ?_
            refine WC.region ?_
            refine WL.step (ok_assign rfl) rfl ?_
            refine WL.nil ?_
            refine WX.thenC ?_
            refine WC.seq ?_
            refine WC.seq ?_
            refine WC.region ?_
            refine WL.step (ok_assign rfl) rfl ?_
            refine WL.nil ?_
            refine WX.thenC ?_
            refine WC.block ?_
            refine WC.loop (fun x : Nat × Nat × Nat => [(0, .slice a' l.length cap'), (2, .string n), (4, .pointer (some ⟨b4, 0, none⟩)), (7, .pointer (some ⟨sb, 0, none⟩)), (9, .int .i64 (x.1 : Nat)), (10, .int .i64 (x.2.1 : Nat)), (11, .int .i64 (x.2.2 : Nat))])
              (fun x w' => x.2.2 ≤ l.length ∧ x.1 ≤ x.2.2 ∧ x.2.1 ≤ x.2.2 ∧ x.1 + (ded ((l.drop x.2.2).map pk)).length = (ded (l.map pk)).length ∧ x.2.1 + (ded ((l.drop x.2.2).map pk)).countP (lt2 · (k, n.toList)) = (ded (l.map pk)).countP (lt2 · (k, n.toList)) ∧ Ext w2 w') (fun x => l.length - x.2.2) (0, 0, 0) (by repeat (first | exact trivial | refine ⟨rfl, ?_⟩)) ?_ ?_
            · exact ⟨by simp, by simp, by simp, by simp, by simp, Kp.refl _ _⟩
            rintro ⟨d, c, j⟩ w3 ⟨hjn2, hdj1, hcj1, hdd, hcc, hEc⟩
            dsimp only at hjn2 hdj1 hcj1 hdd hcc hEc
            dsimp only
            have hI2 := (hI1.ext hEc)
            have h4c := h4b.ext hEc
            refine WC.seq ?_
            refine WC.seq ?_
            refine WC.region ?_
            refine WL.step (ok_move rfl) rfl ?_
            refine WL.step (ok_move rfl) rfl ?_
            refine WL.step (ok_lenSlice rfl Try.underlying57) rfl ?_
            refine WL.step (ok_lss rfl rfl) rfl ?_
            refine WL.nil ?_
            refine WX.thenC ?_
            refine WC.cond rfl (fun hc66 => ?_) (fun hc66 => ?_)
            ·
              have hlt : j < l.length := by have := of_decide_eq_true hc66; omega
              obtain ⟨b, off, rfl, hr⟩ := hI2.at hlt
              have hdj := ded_drop l j hlt
              refine WC.skip ?_
              refine WX.thenC ?_
              refine WC.seq ?_
              refine WC.block ?_
              refine WC.seq ?_
              refine WC.seq ?_
              refine WC.region ?_
              refine WL.step (ok_move rfl) rfl ?_
              refine WL.step (ok_move rfl) rfl ?_
              refine WL.call (ok_callF rfl isfn36) rfl (laterSamePair l ho _ cap' j hlt (by omega) _ hI2) ?_
              rintro v w71 ⟨rfl, hE71⟩
              refine WL.nil ?_
              refine WX.thenC ?_
              refine WC.cond rfl (fun hc71 => ?_) (fun hc71 => ?_)
              ·
                rw [hc71, if_pos rfl] at hdj
                refine WC.exit ?_
                refine WX.thenE ?_
                refine WX.blockHit ?_
                refine WX.thenC ?_
                refine WC.region ?_
                refine WL.step (ok_move rfl) rfl ?_
                refine WL.step (ok_add ((j + 1 : Nat) : Int) rfl rfl (by omega) (by omega) (by omega)) rfl ?_
                refine WL.step (ok_assign rfl) rfl ?_
                refine WL.nil ?_
                exact WX.again (d, c, j + 1) (by repeat (first | exact trivial | refine ⟨rfl, ?_⟩)) ⟨by show j + 1 ≤ _; omega, by show d ≤ j + 1; omega, by show c ≤ j + 1; omega, by rw [hdj] at hdd; exact hdd, by rw [hdj] at hcc; exact hcc, hEc.trans hE71⟩ (by show l.length - (j + 1) < l.length - j; omega)
              ·
                rw [hc71, if_neg (by decide)] at hdj
                refine WC.skip ?_
                refine WX.thenC ?_
                refine WC.seq ?_
                refine WC.region ?_
                refine WL.step (ok_move rfl) rfl ?_
                refine WL.step (ok_add ((d + 1 : Nat) : Int) rfl rfl (by omega) (by omega) (by omega)) rfl ?_
                refine WL.step (ok_assign rfl) rfl ?_
                refine WL.nil ?_
                refine WX.thenC ?_
                refine WC.seq ?_
                refine WC.drawE [12] 5 [(0, true), (1, true), (2, true), (3, true), (4, true), (5, true), (6, true), (7, true), (8, true), (9, true), (10, true), (11, true), (12, false)] mixed (by kernel_rfl) (fun hS => ?_)
                refine WO.quiet rfl (fun _ _ => ok_move rfl) hS rfl ?_
                refine WO.quiet rfl (fun _ _ => ok_move rfl) hS rfl ?_
                refine WO.quiet rfl (fun _ _ => ok_indexS _ rfl rfl rfl (by omega) Try.underlying57 sz64) hS rfl ?_
                refine WO.quiet rfl (fun _ _ => ok_field rfl fld64_0) hS rfl ?_
                refine WO.quiet rfl (fun _ hw => ok_loadN rfl agg29 sz29 (by simp [ho _ (List.getElem_mem hlt)]) (Rd.kp (rd_key (hr.kp hE71 (fun f => f)) ho j hlt) hw (fun f => f))) hS rfl ?_
                refine WO.quiet rfl (fun _ _ => ok_move rfl) hS rfl ?_
                refine WO.quiet rfl (fun _ _ => ok_move rfl) hS rfl ?_
                refine WO.quiet rfl (fun _ _ => ok_indexS _ rfl rfl rfl (by omega) Try.underlying57 sz64) hS rfl ?_
                refine WO.quiet rfl (fun _ _ => ok_field rfl fld64_1) hS rfl ?_
                refine WO.quiet rfl (fun _ hw => ok_load rfl one9 (Kp.cell hw (rd_name (hr.kp hE71 (fun f => f)) ho j hlt) (fun f => f))) hS rfl ?_
                refine WO.quiet rfl (fun _ hw => ok_loadN rfl agg29 sz29 (by simp [hk]) (Rd.kp ((h4c.ext hE71).rd0) hw (fun f => f))) hS rfl ?_
                refine WO.quiet rfl (fun _ _ => ok_move rfl) hS rfl ?_
                refine WO.loudCall rfl (ok_callF rfl isfn20) rfl (lessPair l[j].key k l[j].name n (ho _ (List.getElem_mem hlt)) hk _) ?_
                rintro v w86 ⟨rfl, hE86⟩
                refine ⟨(inL rfl), ?_⟩
                refine WO.nil ?_
                refine WX.thenC ?_
                refine WC.cond rfl (fun hc86 => ?_) (fun hc86 => ?_)
                ·
                  refine WC.region ?_
                  refine WL.step (ok_move rfl) rfl ?_
                  refine WL.step (ok_add ((c + 1 : Nat) : Int) rfl rfl (by omega) (by omega) (by omega)) rfl ?_
                  refine WL.step (ok_assign rfl) rfl ?_
                  refine WL.nil ?_
                  refine WX.blockN ?_
                  refine WX.thenC ?_
                  refine WC.region ?_
                  refine WL.step (ok_move rfl) rfl ?_
                  refine WL.step (ok_add ((j + 1 : Nat) : Int) rfl rfl (by omega) (by omega) (by omega)) rfl ?_
                  refine WL.step (ok_assign rfl) rfl ?_
                  refine WL.nil ?_
                  exact WX.again (d + 1, c + 1, j + 1) (by repeat (first | exact trivial | refine ⟨rfl, ?_⟩)) ⟨by show j + 1 ≤ _; omega, by show d + 1 ≤ j + 1; omega, by show c + 1 ≤ j + 1; omega, cntLen hdj hdd, cntPos hdj (show lt2 (pk l[j]) (k, n.toList) = true from hc86) hcc, ((hEc.trans hE71).trans (Kp.drew _ _)).trans hE86⟩ (by show l.length - (j + 1) < l.length - j; omega)
                ·
                  refine WC.skip ?_
                  refine WX.blockN ?_
                  refine WX.thenC ?_
                  refine WC.region ?_
                  refine WL.step (ok_move rfl) rfl ?_
                  refine WL.step (ok_add ((j + 1 : Nat) : Int) rfl rfl (by omega) (by omega) (by omega)) rfl ?_
                  refine WL.step (ok_assign rfl) rfl ?_
                  refine WL.nil ?_
                  exact WX.again (d + 1, c, j + 1) (by repeat (first | exact trivial | refine ⟨rfl, ?_⟩)) ⟨by show j + 1 ≤ _; omega, by show d + 1 ≤ j + 1; omega, by show c ≤ j + 1; omega, cntLen hdj hdd, cntNeg hdj (show lt2 (pk l[j]) (k, n.toList) = false from hc86) hcc, ((hEc.trans hE71).trans (Kp.drew _ _)).trans hE86⟩ (by show l.length - (j + 1) < l.length - j; omega)
            ·
              have hge2 : j = l.length := by have := of_decide_eq_false hc66; omega
              have hd2 : d = (ded (l.map pk)).length := by rw [hge2, List.drop_length] at hdd; simpa [ded] using hdd
              have hcr : c = cntF (geP k n.toList) runs.flatten := by rw [hge2, List.drop_length] at hcc; rw [cntF_rank, hF1.count]; simpa [ded] using hcc
              have hSh1 := hSh
              refine WC.exit ?_
              refine WX.thenE ?_
              refine WX.thenE ?_
              refine WX.blockHit ?_
              refine WX.thenC ?_
              refine WC.seq ?_
              refine WC.region ?_
              refine WL.step (ok_move rfl) rfl ?_
              refine WL.step (ok_loadN rfl agg29 sz29 (by simp [hk]) (h4c.rd0)) rfl ?_
              refine WL.step (ok_move rfl) rfl ?_
              refine WL.call (ok_callF rfl isfn37) rfl (absentW l ho a' cap' ⟨k, n⟩ hk (by omega) _ hI2) ?_
              rintro v w92 ⟨rfl, hE92⟩
              have hEx := hEc.trans hE92
              have hS1 := hSh1.ext hEx
              obtain ⟨hd, rs, g, hOs, hRs, hnf, rfl, hlsb, hlfp⟩ := hS1
              obtain ⟨ha, hcap, rfl⟩ := hRs.hdl
              have hrsl : rs.length ≤ l.length := by have := hF1.inv.runs_le; have := hF1.len; rw [slots_length] at *; simp at this; omega
              have hlen : (lens (slots rs)).length = rs.length := by simp [lens, slots]
              have hsm : sumL (lens (slots rs)) ≤ 4096 := by have := hF1.sum; omega
              refine WL.step (ok_not rfl) rfl ?_
              refine WL.step (ok_assign rfl) rfl ?_
              refine WL.nil ?_
              refine WX.thenC ?_
              refine WC.seq ?_
              refine WC.region ?_
              refine WL.step (ok_move rfl) rfl ?_
              refine WL.call (ok_callF rfl isfn21) rfl (shelfRuns sb 0 _ _ (by rw [hOs.cell]; rfl)) ?_
              rintro v w95 ⟨rfl, hw95⟩
              subst hw95
              refine WL.step (ok_assign rfl) rfl ?_
              refine WL.nil ?_
              refine WX.thenC ?_
              refine WC.seq ?_
              refine WC.seq ?_
              refine WC.region ?_
              refine WL.step (ok_move rfl) rfl ?_
              refine WL.step (ok_lenSlice rfl Try.underlying45) rfl ?_
              refine WL.step (ok_move rfl) rfl ?_
              refine WL.step (ok_lenSlice rfl Try.underlying57) rfl ?_
              refine WL.step (ok_gtr rfl rfl) rfl ?_
              refine WL.nil ?_
              refine WX.thenC ?_
              refine WC.condFb rfl (decide_eq_false (by omega)) ?_
              refine WC.skip ?_
              refine WX.thenC ?_
              refine WC.seq ?_
              refine WC.region ?_
              refine WL.step (ok_move rfl) rfl ?_
              refine WL.step (ok_lenSlice rfl Try.underlying45) rfl ?_
              refine WL.rew 102 (.int .i64 ((lens (slots rs)).length : Nat)) rfl (by rw [hlen]) ?_
              refine WL.make ((lens (slots rs)).length) elt43 rfl (by omega) (by omega) rfl ?_
              intro b103 w103 c103 hb103 ho103 hl103 hz103 hk103 hs103
              refine WL.step (ok_assign rfl) rfl ?_
              refine WL.nil ?_
              refine WX.thenC ?_
              refine WC.seq ?_
              refine WC.region ?_
              refine WL.step (ok_assign rfl) rfl ?_
              refine WL.nil ?_
              refine WX.thenC ?_
              refine WC.seq ?_
              refine WC.seq ?_
              refine WC.region ?_
              refine WL.step (ok_assign rfl) rfl ?_
              refine WL.nil ?_
              refine WX.thenC ?_
              refine WC.block ?_
              refine WC.loop (fun j : Nat => [(0, .slice a' l.length cap'), (2, .string n), (4, .pointer (some ⟨b4, 0, none⟩)), (7, .pointer (some ⟨sb, 0, none⟩)), (9, .int .i64 (d : Nat)), (10, .int .i64 (c : Nat)), (12, .bool (!absent l ⟨k, n⟩)), (13, .slice ha rs.length hcap), (14, .slice (some ⟨b103, 0, none⟩) (lens (slots rs)).length (lens (slots rs)).length), (15, .int .i64 (sumL ((lens (slots rs)).take j) : Nat)), (16, .int .i64 (j : Nat))])
                (fun j w' => j ≤ rs.length ∧ (∃ rest, Own w' b103 3 (nc ((lens (slots rs)).take j) ++ rest) ∧ rest.length = rs.length - j) ∧ Ext w95 w') (fun j => rs.length - j) 0 (by repeat (first | exact trivial | refine ⟨rfl, ?_⟩)) ?_ ?_
              · exact ⟨by omega, ⟨c103, by simpa [nc] using ho103, by simp [hl103, hlen]⟩, hk103⟩
              rintro j w4 ⟨hjn3, ⟨rest, hOl, hrest⟩, hE2⟩
              have h4x := h4c.ext hE92
              refine WC.seq ?_
              refine WC.seq ?_
              refine WC.region ?_
              refine WL.step (ok_move rfl) rfl ?_
              refine WL.step (ok_move rfl) rfl ?_
              refine WL.step (ok_lenSlice rfl Try.underlying45) rfl ?_
              refine WL.step (ok_lss rfl rfl) rfl ?_
              refine WL.nil ?_
              refine WX.thenC ?_
              refine WC.cond rfl (fun hc107 => ?_) (fun hc107 => ?_)
              ·
                have hlt : j < rs.length := by have := of_decide_eq_true hc107; omega
                obtain ⟨gb, hcap', spg, heq, rfl, hOg, hcl⟩ := (hRs.ext hE2).hd (by intro e; rw [e] at hlt; simp at hlt)
                cases heq
                refine WC.skip ?_
                refine WX.thenC ?_
                refine WC.seq ?_
                refine WC.block ?_
                refine WC.seq ?_
                refine WC.region ?_
                refine WL.step (ok_move rfl) rfl ?_
                refine WL.step (ok_move rfl) rfl ?_
                refine WL.step (ok_move rfl) rfl ?_
                refine WL.step (ok_move rfl) rfl ?_
                refine WL.step (ok_indexS _ rfl rfl rfl (by omega) Try.underlying45 sz49) rfl ?_
                refine WL.step (ok_load rfl one49 (rd_hdr hOg j hlt)) rfl ?_
                refine WL.step (ok_lenSlice rfl Try.underlying49) rfl ?_
                refine WL.step (ok_indexS _ rfl rfl rfl (by omega) Try.underlying43 sz3) rfl ?_
                refine WL.store rfl rfl sz3 (hOl) (by simp [Value.cells]) (by simp [Value.cells]; omega) (by simp [Value.cells, Value.oneCell']) ?_
                intro wr31 hor31 hkr31 hsr31
                have hor31' : Own wr31 b103 3 (nc ((lens (slots rs)).take (j + 1)) ++ rest.drop 1) := by
                  have := hor31
                  simp only [Value.cells] at this
                  rw [← nc_take_succ (lens (slots rs)) j (by omega) rest rs[j].sl.length (by simp [lens, slots])]
                  exact this
                have hcl31 : wr31.cell? ⟨b103, 0 + j * 1, none⟩ = some (.int .i64 (rs[j].sl.length : Nat)) := by
                  have := rd_nat (hor31'.rd0.append_left) j (by simp; omega)
                  simpa [lens, slots] using this
                have hsj := sumL_take_succ (lens (slots rs)) j (by omega)
                have hsj2 : (lens (slots rs))[j]'(by omega) = rs[j].sl.length := by simp [lens, slots]
                rw [hsj2] at hsj
                have hsj3 := sumL_take_le (lens (slots rs)) (j + 1)
                refine WL.nil ?_
                refine WX.thenC ?_
                refine WC.region ?_
                refine WL.step (ok_move rfl) rfl ?_
                refine WL.step (ok_move rfl) rfl ?_
                refine WL.step (ok_move rfl) rfl ?_
                refine WL.step (ok_indexS _ rfl rfl rfl (by omega) Try.underlying43 sz3) rfl ?_
                refine WL.step (ok_load rfl one3 (hcl31)) rfl ?_
                refine WL.step (ok_add ((sumL ((lens (slots rs)).take (j + 1)) : Nat) : Int) rfl rfl (by omega) (by omega) (by omega)) rfl ?_
                refine WL.step (ok_assign rfl) rfl ?_
                refine WL.nil ?_
                refine WX.blockN ?_
                refine WX.thenC ?_
                refine WC.region ?_
                refine WL.step (ok_move rfl) rfl ?_
                refine WL.step (ok_add ((j + 1 : Nat) : Int) rfl rfl (by omega) (by omega) (by omega)) rfl ?_
                refine WL.step (ok_assign rfl) rfl ?_
                refine WL.nil ?_
                exact WX.again (j + 1) (by repeat (first | exact trivial | refine ⟨rfl, ?_⟩)) ⟨by omega, ⟨rest.drop 1, hor31', by simp [hrest]; omega⟩, hE2.over hkr31 (fun i hi e => by omega)⟩ (by omega)
              ·
                have hge3 : j = rs.length := by have := of_decide_eq_false hc107; omega
                have hheld : sumL ((lens (slots rs)).take j) = d := by rw [hge3, sumL_take_all _ _ (by omega), hF1.sum, hd2]
                have hRl : Rd w4 b103 0 (nc (lens (slots rs))) := by rw [hge3, ← hlen, List.take_length] at hOl; exact hOl.rd0.append_left
                refine WC.exit ?_
                refine WX.thenE ?_
                refine WX.thenE ?_
                refine WX.blockHit ?_
                refine WX.thenC ?_
                refine WC.seq ?_
                refine WC.seq ?_
                refine WC.region ?_
                refine WL.step (ok_move rfl) rfl ?_
                refine WL.step (ok_move rfl) rfl ?_
                refine WL.step (ok_neq rfl rfl) rfl ?_
                refine WL.step (ok_move rfl) rfl ?_
                refine WL.rew 127 (.bool false) rfl (congrArg Value.bool (by rw [hheld]; simp)) ?_
                refine WL.on rfl rfl ?_
                refine WL.step (ok_move rfl) rfl ?_
                refine WL.on rfl rfl ?_
                refine WL.call (ok_callF rfl isfn23) rfl (runsBounded (lens (slots rs)) hF1.inv.bd b103 0 _ (by omega) _ hRl) ?_
                rintro v w129 ⟨rfl, hE129⟩
                refine WL.on rfl rfl ?_
                refine WL.step (ok_not rfl) rfl ?_
                refine WL.step (ok_pickF rfl rfl) rfl ?_
                refine WL.nil ?_
                refine WX.thenC ?_
                refine WC.condFb rfl rfl ?_
                refine WC.skip ?_
                refine WX.thenC ?_
                refine WC.seq ?_
                refine WC.region ?_
                refine WL.step (ok_move rfl) rfl ?_
                refine WL.step (ok_move rfl) rfl ?_
                refine WL.call (ok_callF rfl isfn33) rfl (placeOfW (lens (slots rs)) c b103 0 _ (by omega) (by omega) (by omega) _ (hRl.kp hE129 (fun f => f))) ?_
                rintro v w135 ⟨rfl, hE135⟩
                have hEz := (hE2.trans hE129).trans hE135
                have hEy := hEx.trans hEz
                refine WL.step (ok_move rfl) rfl ?_
                refine WL.step (ok_extract rfl rfl) rfl ?_
                refine WL.step (ok_extract rfl rfl) rfl ?_
                refine WL.step (ok_assign rfl) rfl ?_
                refine WL.step (ok_assign rfl) rfl ?_
                refine WL.nil ?_
                refine WX.thenC ?_
                refine WC.seq ?_
                refine WC.region ?_
                refine WL.step (ok_move rfl) rfl ?_
                refine WL.step (ok_loadN rfl agg29 sz29 (by simp [hk]) ((h4x.ext hEz).rd0)) rfl ?_
                refine WL.step (ok_move rfl) rfl ?_
                refine WL.call (ok_callF rfl isfn38) rfl (shelfFind k n hk _ (hSh1.ext hEy) (hF1.inv.mono hk _) hF1.inv.ne (fun r hr => Nat.le_trans (hF1.inv.le r hr) (by decide)) (by rw [slots_length]; omega)) ?_
                rintro v w142 ⟨r, i, hpl, rfl, hE142⟩
                have hplc : placeOf (lens (slots rs)) c = (r, i) := by rw [hcr]; exact hpl
                have hht := hit_rank hF1.inv hk hpl
                refine WL.step (ok_move rfl) rfl ?_
                refine WL.step (ok_extract rfl rfl) rfl ?_
                refine WL.step (ok_extract rfl rfl) rfl ?_
                refine WL.step (ok_extract rfl rfl) rfl ?_
                refine WL.step (ok_assign rfl) rfl ?_
                refine WL.step (ok_assign rfl) rfl ?_
                refine WL.step (ok_assign rfl) rfl ?_
                refine WL.nil ?_
                refine WX.thenC ?_
                refine WC.seq ?_
                refine WC.region ?_
                refine WL.step (ok_move rfl) rfl ?_
                refine WL.step (ok_move rfl) rfl ?_
                refine WL.step (ok_eql rfl rfl) rfl ?_
                refine WL.step (ok_move rfl) rfl ?_
                refine WL.rew 149 (.bool true) rfl (congrArg Value.bool (decide_eq_true (by rw [hplc]))) ?_
                refine WL.on rfl rfl ?_
                refine WL.step (ok_move rfl) rfl ?_
                refine WL.on rfl rfl ?_
                refine WL.step (ok_move rfl) rfl ?_
                refine WL.on rfl rfl ?_
                refine WL.step (ok_eql rfl rfl) rfl ?_
                refine WL.step (ok_pickT rfl rfl) rfl ?_
                refine WL.step (ok_move rfl) rfl ?_
                refine WL.rew 154 (.bool true) rfl (congrArg Value.bool (decide_eq_true (by rw [hplc]))) ?_
                refine WL.on rfl rfl ?_
                refine WL.step (ok_move rfl) rfl ?_
                refine WL.on rfl rfl ?_
                refine WL.step (ok_move rfl) rfl ?_
                refine WL.on rfl rfl ?_
                refine WL.step (ok_eqlBool rfl rfl Try.underlying4) rfl ?_
                refine WL.step (ok_pickT rfl rfl) rfl ?_
                refine WL.step (ok_assign rfl) rfl ?_
                refine WL.nil ?_
                refine WX.thenC ?_
                refine WC.ret ?_
                exact WX.ret1 rfl rfl ⟨_, rfl, by rw [hht, absent_iff]; simp only [hF1.mem]; simp [pk], (hE0.trans hEy).trans hE142⟩

end Go.Proofs.Try
