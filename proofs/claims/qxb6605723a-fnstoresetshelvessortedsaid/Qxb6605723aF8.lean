/- Walk: the law of insert's bounds. -/
import Derived.Test.Qxb6605723aF6
set_option linter.unusedVariables false
set_option linter.unusedSimpArgs false
set_option maxRecDepth 100000
namespace Go.Sx
open Go.Pl

/-- A shelf whose blocks lie from lo to below hi. -/
def ShH (lo hi : Nat) (w : World) (sb : Nat) (runs : List (List Slot)) : Prop :=
  ∃ hd rs g, Own w sb 80 [hd] ∧ RunsAt w hd rs g ∧ sb ∉ fp g rs ∧ slots rs = runs ∧ (lo ≤ sb ∧ sb < hi) ∧ ∀ b ∈ fp g rs, lo ≤ b ∧ b < hi
theorem ShH.ext {lo hi sb : Nat} {w w' : World} {runs : List (List Slot)} (h : ShH lo hi w sb runs) (k : Ext w w') : ShH lo hi w' sb runs := by
  obtain ⟨hd, rs, g, h1, h2, h3, h4, h5, h6⟩ := h
  exact ⟨hd, rs, g, h1.ext k, h2.ext k, h3, h4, h5, h6⟩
theorem ShL.high {lo sb : Nat} {w : World} {runs : List (List Slot)} (h : ShL lo w sb runs) : ShH lo w.heap.size w sb runs := by
  obtain ⟨hd, rs, g, h1, h2, h3, h4, h5, h6⟩ := h
  exact ⟨hd, rs, g, h1, h2, h3, h4, ⟨h5, h1.lt⟩, fun b hb => ⟨h6 b hb, h2.lt b hb⟩⟩

/-! ### The lengths built up one by one -/
def mid (m : Nat) : List Nat := if m < 128 then [m + 1] else [64, 65]
def insP (L : List Nat) (q : Nat) : Nat → List Nat
  | 0 => []
  | j + 1 => insP L q j ++ (if j = q then mid (L.getD j 0) else [L.getD j 0])
theorem insP_ne {L : List Nat} {q j : Nat} (h : j ≠ q) (hj : j < L.length) : insP L q (j + 1) = insP L q j ++ [L[j]] := by
  have : L.getD j 0 = L[j] := by simp [List.getD, hj]
  rw [insP, if_neg h, this]
theorem insP_lt {L : List Nat} {q j : Nat} (h : j = q) (hj : j < L.length) (hm : L[j] < 128) : insP L q (j + 1) = insP L q j ++ [L[j] + 1] := by
  have : L.getD j 0 = L[j] := by simp [List.getD, hj]
  rw [insP, if_pos h, this, mid, if_pos hm]
theorem insP_ge {L : List Nat} {q j : Nat} (h : j = q) (hj : j < L.length) (hm : ¬ L[j] < 128) : insP L q (j + 1) = insP L q j ++ [64, 65] := by
  have : L.getD j 0 = L[j] := by simp [List.getD, hj]
  rw [insP, if_pos h, this, mid, if_neg hm]
theorem insP_len (L : List Nat) (q : Nat) : ∀ j, (insP L q j).length ≤ 2 * j
  | 0 => by simp [insP]
  | j + 1 => by
    have := insP_len L q j
    rw [insP, List.length_append]
    have h2 : (if j = q then mid (L.getD j 0) else [L.getD j 0]).length ≤ 2 := by
      split
      · unfold mid; split <;> simp
      · simp
    omega
theorem insP_before {L : List Nat} {q : Nat} : ∀ (j : Nat), j ≤ q → j ≤ L.length → insP L q j = L.take j
  | 0, _, _ => by simp [insP]
  | j + 1, h1, h2 => by
    rw [insP_ne (by omega) (by omega), insP_before j (by omega) (by omega), List.take_succ_eq_append_getElem (by omega)]
theorem insP_after {L : List Nat} {q : Nat} (hq : q < L.length) : ∀ (d : Nat), q + 1 + d ≤ L.length → insP L q (q + 1 + d) = L.take q ++ mid L[q] ++ (L.drop (q + 1)).take d
  | 0, _ => by
    have : L.getD q 0 = L[q] := by simp [List.getD, hq]
    show insP L q q ++ _ = _
    rw [insP_before q (Nat.le_refl _) (by omega), if_pos rfl, this]
    simp
  | d + 1, h => by
    have ih := insP_after hq d (by omega)
    rw [show q + 1 + (d + 1) = (q + 1 + d) + 1 by omega, insP_ne (by omega) (by omega), ih, List.take_succ_eq_append_getElem (l := L.drop (q + 1)) (by simp; omega)]
    simp
theorem insP_all {L : List Nat} {r q : Nat} (hne : L ≠ []) (hq : q = if r = L.length then r - 1 else r) (hr : r ≤ L.length) : insP L q L.length = insL L r := by
  have hpos : 0 < L.length := List.length_pos_iff.2 hne
  have hlt : q < L.length := by rw [hq]; split <;> omega
  have := insP_after hlt (L.length - (q + 1)) (by omega)
  rw [show q + 1 + (L.length - (q + 1)) = L.length by omega] at this
  rw [this]
  unfold insL
  rw [if_neg hne]
  simp only [← hq]
  have hg : L.getD q 0 = L[q] := by simp [List.getD, hlt]
  rw [hg, List.take_of_length_le (l := L.drop (q + 1)) (by simp)]
  unfold mid
  split
  · rw [List.set_eq_take_append_cons_drop, if_pos hlt]; simp
  · rfl

theorem sloNext {w : World} {b cap m : Nat} {L L' news : List Nat} {g : Option Nat} (h : Slo w (.slice (some ⟨b, 0, none⟩) (L.length + m) cap) 3 1 (L.length + m) (nc L ++ nc news) g) (hL : L' = L ++ news) (hm : news.length = m) :
    Slo w (.slice (some ⟨b, 0, none⟩) L'.length cap) 3 1 L'.length (nc L') g := by
  subst hL
  subst hm
  rw [List.length_append]
  have : nc (L ++ news) = nc L ++ nc news := by simp [nc]
  rw [this]
  exact h
theorem nc_one (l : List Nat) : ∀ u ∈ nc l, u.oneCell' = true := by
  intro u hu
  simp only [nc, List.mem_map] at hu
  obtain ⟨n, _, rfl⟩ := hu
  rfl
theorem fill_two (zs : List Value) (x y : Int) (hz : zs.length = 2 * 1) :
    fillL (fun i => some (i * 1, 1)) zs (([0, 1] : List Nat).zip [.int .i64 x, .int .i64 y]) = some [.int .i64 x, .int .i64 y] := by
  match zs, hz with
  | [a, b], _ => simp [fillL, splice, Value.cells]
end Go.Sx
namespace Go.Proofs.Try
open Go.Sx Go.Pl

theorem insertH {lo hi sb : Nat} {runs : List (List Slot)} (r i : Nat) (e : Slot) (w : World) (hS : ShH lo hi w sb runs) (hlo : lo ≤ w.heap.size) (he : OkSl e) (hpos : ∀ (h : r < runs.length), i ≤ runs[r].length) (hrle : r ≤ runs.length)
    (hl : ∀ r ∈ runs, r.length ≤ 128) (hn : runs.length ≤ 1048576) :
    CallsV Try.prog 51 #[.pointer (some ⟨sb, 0, none⟩), .agg #[.int .i64 (r : Nat), .int .i64 (i : Nat)], .agg e.cells.toArray] w fun v w' => v = .tuple #[] ∧ ShL lo w' sb (insAt runs r i e) ∧ Kp (fun k => lo ≤ k ∧ k < hi) w w' := by
  obtain ⟨hd, rs, g, h1, h2, h3, rfl, h5, h6⟩ := hS
  refine (insertW rs hd g sb 0 80 [hd] r i e w h1 rfl h2 h3 he (fun h => by have := hpos (by rw [slots_length]; exact h); simpa [slots] using this) (by rw [slots_length] at hrle; exact hrle) (fun r hr => hl r.sl (by simp only [slots, List.mem_map]; exact ⟨r, hr, rfl⟩)) (by rw [slots_length] at hn; exact hn)).mono ?_
  rintro v w' ⟨rfl, hd', rs', g', q1, q2, q3, q4, q5⟩
  have hsl := h1.lt
  refine ⟨rfl, ⟨hd', rs', g', q1, q2, ?_, q3, h5.1, ?_⟩, q4.mono ?_⟩
  · intro hb
    rcases q5 _ hb with h | h
    · exact h3 h
    · omega
  · intro b hb
    rcases q5 _ hb with h | h
    · exact (h6 b h).1
    · omega
  · rintro k _ (rfl | h)
    · exact h5
    · exact h6 k h

theorem shelfInsertH {lo hi sb : Nat} {runs : List (List Slot)} (r i : Nat) (k : List UInt8) (n : ByteArray) (val : Value) (t : Nat) (hk : k.length = 20) (hval : val.oneCell' = true) (w : World)
    (hSh : ShH lo hi w sb runs) (hlo : lo ≤ w.heap.size) (hpos : ∀ (h : r < runs.length), i ≤ runs[r].length) (hrle : r ≤ runs.length) (hl : ∀ r ∈ runs, r.length ≤ 128) (hn : runs.length ≤ 1048576) :
    CallsV Try.prog 41 #[.pointer (some ⟨sb, 0, none⟩), .int .i64 (r : Nat), .int .i64 (i : Nat), .agg (kc k ++ [Value.string n, val]).toArray, .int .u64 (t : Nat)] w fun v w' => v = .tuple #[] ∧ ShL lo w' sb (insAt runs r i ⟨k, n, val, (t : Nat)⟩) ∧ Kp (fun k => lo ≤ k ∧ k < hi) w w' := by
  have hel : (kc k ++ [Value.string n, val]).length = 22 := by simp [hk]
  refine calls_intro (args := [_, _, _, _, _]) Try.func41 rfl Try.ntmps41 rfl ?_
  refine WC.seq ?_
  refine WC.region ?_
  refine WL.box (c := kc k ++ [Value.string n, val]) rfl rfl rfl ?_
  intro b8 w8 hb8 ho8 hk8 hs8
  refine WL.nil ?_
  refine WX.thenC ?_
  refine WC.region ?_
  refine WL.step (ok_move rfl) rfl ?_
  refine WL.step (ok_move rfl) rfl ?_
  refine WL.step (ok_move rfl) rfl ?_
  refine WL.step (build92b rfl rfl) rfl ?_
  refine WL.step (ok_loadN rfl agg35 sz35 hel (ho8.rd0)) rfl ?_
  refine WL.step (ok_move rfl) rfl ?_
  refine WL.step (build54 hel rfl rfl) rfl ?_
  refine WL.rew 16 (.agg (Slot.cells ⟨k, n, val, (t : Nat)⟩).toArray) rfl (by simp [Slot.cells]) ?_
  refine WL.call (ok_callF rfl isfn51) rfl (insertH r i ⟨k, n, val, (t : Nat)⟩ _ (hSh.ext hk8) (Nat.le_trans hlo hk8.size) ⟨hk, hval⟩ hpos hrle hl hn) ?_
  rintro v w17 ⟨rfl, hS17, hK17⟩
  refine WL.nil ?_
  exact WX.end0 rfl ⟨_, rfl, rfl, hS17, (Kp.of_ext hk8).trans hK17⟩
set_option maxHeartbeats 2000000 in
theorem lawKeeps (l : List Itm) (ho : OkI l) (a : Option Addr) (cap : Nat) (k : List UInt8) (n : ByteArray) (hk : k.length = 20) (w : World) (hI : ItemsAt w a l) :
    CallsV Try.prog 8 #[.slice a l.length cap, .agg (kc k).toArray, .string n] w fun v w' => v = .bool true ∧ Ext w w' := by
  refine calls_intro (args := [_, _, _]) Try.func8 rfl Try.ntmps8 rfl ?_
  refine WC.seq ?_
  refine WC.region ?_
  refine WL.box (c := kc k) rfl rfl rfl ?_
  intro b4 w4 hb4 ho4 hk4 hs4
  refine WL.step (ok_assign rfl) rfl ?_
  refine WL.nil ?_
  refine WX.thenC ?_
  refine WC.seq ?_
  refine WC.seq ?_
  refine WC.region ?_
  refine WL.step (ok_move rfl) rfl ?_
  refine WL.step (ok_loadN rfl agg29 sz29 (by simp [hk]) (ho4.rd0)) rfl ?_
  refine WL.step (ok_move rfl) rfl ?_
  refine WL.call (ok_callF rfl isfn42) rfl (bytesKeeps l ho a cap _ n _ (hI.ext hk4)) ?_
  rintro v w25 ⟨⟨z25, rfl, hz25⟩, hE25⟩
  refine WL.step (ok_not rfl) rfl ?_
  refine WL.nil ?_
  refine WX.thenC ?_
  refine WC.cond rfl (fun hc27 => ?_) (fun hc27 => ?_)
  ·
    refine WC.seq ?_
    refine WC.region ?_
    refine WL.step (ok_assign rfl) rfl ?_
    refine WL.nil ?_
    refine WX.thenC ?_
    refine WC.ret ?_
    refine WX.thenR ?_
    exact WX.ret1 rfl rfl ⟨_, rfl, rfl, hk4.trans hE25⟩
  ·
    have hz := hz25 (by simpa using hc27)
    obtain ⟨hnm, hnx⟩ := hz
    refine WC.skip ?_
    refine WX.thenC ?_
    refine WC.seq ?_
    refine WC.seq ?_
    refine WC.region ?_
    refine WL.step (ok_move rfl) rfl ?_
    refine WL.step (ok_lenSlice rfl Try.underlying57) rfl ?_
    refine WL.step (ok_gtr rfl rfl) rfl ?_
    refine WL.step (ok_move rfl) rfl ?_
    refine WL.splitB 31 rfl (fun hb31 => ?_) (fun hb31 => ?_)
    ·
      refine WL.off rfl rfl rfl rfl ?_
      refine WL.off rfl rfl rfl rfl ?_
      refine WL.off rfl rfl rfl rfl ?_
      refine WL.step (ok_pickT rfl rfl) rfl ?_
      refine WL.nil ?_
      refine WX.thenC ?_
      refine WC.condTb rfl rfl ?_
      refine WC.seq ?_
      refine WC.region ?_
      refine WL.step (ok_assign rfl) rfl ?_
      refine WL.nil ?_
      refine WX.thenC ?_
      refine WC.ret ?_
      refine WX.thenR ?_
      exact WX.ret1 rfl rfl ⟨_, rfl, rfl, hk4.trans hE25⟩
    ·
      have hn4 : l.length ≤ 4096 := by have := of_decide_eq_false hb31; omega
      refine WL.on rfl rfl ?_
      refine WL.step (ok_move rfl) rfl ?_
      refine WL.on rfl rfl ?_
      refine WL.step (ok_lenString rfl Try.underlying9) rfl ?_
      refine WL.on rfl rfl ?_
      refine WL.step (ok_gtr rfl rfl) rfl ?_
      refine WL.step (ok_pickF rfl rfl) rfl ?_
      refine WL.nil ?_
      refine WX.thenC ?_
      refine WC.cond rfl (fun hc35 => ?_) (fun hc35 => ?_)
      ·
        refine WC.seq ?_
        refine WC.region ?_
        refine WL.step (ok_assign rfl) rfl ?_
        refine WL.nil ?_
        refine WX.thenC ?_
        refine WC.ret ?_
        refine WX.thenR ?_
        exact WX.ret1 rfl rfl ⟨_, rfl, rfl, hk4.trans hE25⟩
      ·
        refine WC.skip ?_
        refine WX.thenC ?_
        refine WC.seq ?_
        refine WC.seq ?_
        refine WC.region ?_
        refine WL.step (ok_move rfl) rfl ?_
        refine WL.call (ok_callF rfl isfn28) rfl (itemsBytes l ho a cap (by omega) _ ((hI.ext hk4).ext hE25)) ?_
        rintro v w36 ⟨⟨z36, rfl⟩, hw36⟩
        subst hw36
        refine WL.step (ok_move rfl) rfl ?_
        refine WL.step (ok_lenString rfl Try.underlying9) rfl ?_
        refine WL.step (ok_addW rfl rfl) rfl ?_
        refine WL.step (ok_gtr rfl rfl) rfl ?_
        refine WL.nil ?_
        refine WX.thenC ?_
        refine WC.cond rfl (fun hc41 => ?_) (fun hc41 => ?_)
        ·
          refine WC.seq ?_
          refine WC.region ?_
          refine WL.step (ok_assign rfl) rfl ?_
          refine WL.nil ?_
          refine WX.thenC ?_
          refine WC.ret ?_
          refine WX.thenR ?_
          exact WX.ret1 rfl rfl ⟨_, rfl, rfl, hk4.trans hE25⟩
        ·
          refine WC.skip ?_
          refine WX.thenC ?_
          refine WC.seq ?_
          refine WC.seq ?_
          refine WC.region ?_
          refine WL.step (ok_move rfl) rfl ?_
          refine WL.step (ok_loadN rfl agg29 sz29 (by simp [hk]) ((ho4.ext hE25).rd0)) rfl ?_
          refine WL.step (ok_move rfl) rfl ?_
          refine WL.call (ok_callF rfl isfn37) rfl (absentW l ho a cap ⟨k, n⟩ hk (by omega) _ ((hI.ext hk4).ext hE25)) ?_
          rintro v w45 ⟨rfl, hE45⟩
          refine WL.step (ok_not rfl) rfl ?_
          refine WL.nil ?_
          refine WX.thenC ?_
          refine WC.cond rfl (fun hc46 => ?_) (fun hc46 => ?_)
          ·
            refine WC.seq ?_
            refine WC.region ?_
            refine WL.step (ok_assign rfl) rfl ?_
            refine WL.nil ?_
            refine WX.thenC ?_
            refine WC.ret ?_
            refine WX.thenR ?_
            exact WX.ret1 rfl rfl ⟨_, rfl, rfl, (hk4.trans hE25).trans hE45⟩
          ·
            have habs : absent l ⟨k, n⟩ = true := by simpa using hc46
            refine WC.skip ?_
            refine WX.thenC ?_
            refine WC.seq ?_
            refine WC.region ?_
            refine WL.step (ok_move rfl) rfl ?_
            refine WL.call (ok_callF rfl isfn29) rfl (cloneItems l ho a cap hn4 _ (((hI.ext hk4).ext hE25).ext hE45)) ?_
            rintro v w42 ⟨a', cap', rfl, hI42, hfr42, hE42⟩
            have hEw42 : Ext w w42 := ((hk4.trans hE25).trans hE45).trans hE42
            have h42 := ((ho4.ext hE25).ext hE45).ext hE42
            obtain ⟨lo, hlo⟩ : ∃ lo, lo = w42.heap.size := ⟨_, rfl⟩
            have hT42 := hI42.low ho
            rw [← hlo] at hT42
            have hb4l : b4 < lo := by rw [hlo]; exact h42.lt
            have hwlo : w.heap.size ≤ lo := by rw [hlo]; exact hEw42.size
            refine WL.step (ok_assign rfl) rfl ?_
            refine WL.nil ?_
            refine WX.thenC ?_
            refine WC.seq ?_
            refine WC.region ?_
            refine WL.call (ok_callF rfl isfn30) rfl (newShelf _) ?_
            rintro v w43 ⟨sb, rfl, hsb, hO43, hE43⟩
            have hS0 : ShL lo w43 sb [] := ShL.new hO43 (by omega)
            have hlo43 : lo ≤ w43.heap.size := by rw [hlo]; exact hE43.size
            refine WL.step (ok_assign rfl) rfl ?_
            refine WL.nil ?_
            refine WX.thenC ?_
            refine WC.seq ?_
            refine WC.seq ?_
            refine WC.region ?_
            refine WL.step (ok_assign rfl) rfl ?_
            refine WL.nil ?_
            refine WX.thenC ?_
            refine WC.block ?_
            refine WC.loop (fun j : Nat => [(0, .slice a' l.length cap'), (2, .string n), (4, .pointer (some ⟨b4, 0, none⟩)), (7, .pointer (some ⟨sb, 0, none⟩)), (8, .int .i64 (j : Nat))])
              (fun j w' => j ≤ l.length ∧ ∃ runs, ShL lo w' sb runs ∧ Fil runs ((l.take j).map pk) ∧ Kp (lo ≤ ·) w43 w') (fun j => l.length - j) 0 (by repeat (first | exact trivial | refine ⟨rfl, ?_⟩)) ?_ ?_
            · exact ⟨by omega, [], hS0, by simpa using Fil.nil, Kp.refl _ _⟩
            rintro j w2 ⟨hjn, runs, hSh, hF, hK⟩
            have hT2 := (hT42.kp (Kp.of_ext hE43)).kp hK
            have hI1 := hT2.at
            have h4b := hK.own (h42.ext hE43) (by omega)
            have hE0 : Ext w w2 := (hEw42.trans hE43).over hK (fun i hi e => by omega)
            refine WC.seq ?_
            refine WC.seq ?_
            refine WC.region ?_
            refine WL.step (ok_move rfl) rfl ?_
            refine WL.step (ok_move rfl) rfl ?_
            refine WL.step (ok_lenSlice rfl Try.underlying57) rfl ?_
            refine WL.step (ok_lss rfl rfl) rfl ?_
            refine WL.nil ?_
            refine WX.thenC ?_
            refine WC.cond rfl (fun hc53 => ?_) (fun hc53 => ?_)
            ·
              have hlt : j < l.length := by have := of_decide_eq_true hc53; omega
              have hrn : runs.length ≤ 1048576 := by have := hF.inv.runs_le; have := hF.len; simp at this; omega
              obtain ⟨b, off, rfl, hr⟩ := hI1.at hlt
              refine WC.skip ?_
              refine WX.thenC ?_
              refine WC.seq ?_
              refine WC.block ?_
              refine WC.drawE [12] 6 [(0, true), (1, true), (2, true), (3, true), (4, true), (5, true), (6, true), (7, true), (8, true), (9, true), (10, true), (11, true), (12, false)] mixed (by kernel_rfl) (fun hS => ?_)
              refine WO.quiet rfl (fun _ _ => ok_move rfl) hS rfl ?_
              refine WO.quiet rfl (fun _ _ => ok_move rfl) hS rfl ?_
              refine WO.quiet rfl (fun _ _ => ok_move rfl) hS rfl ?_
              refine WO.quiet rfl (fun _ _ => ok_indexS _ rfl rfl rfl (by omega) Try.underlying57 sz64) hS rfl ?_
              refine WO.quiet rfl (fun _ _ => ok_field rfl fld64_0) hS rfl ?_
              refine WO.quiet rfl (fun _ hw => ok_loadN rfl agg29 sz29 (by simp [ho _ (List.getElem_mem hlt)]) (Rd.kp (rd_key hr ho j hlt) hw (fun f => f))) hS rfl ?_
              refine WO.quiet rfl (fun _ _ => ok_move rfl) hS rfl ?_
              refine WO.quiet rfl (fun _ _ => ok_move rfl) hS rfl ?_
              refine WO.quiet rfl (fun _ _ => ok_indexS _ rfl rfl rfl (by omega) Try.underlying57 sz64) hS rfl ?_
              refine WO.quiet rfl (fun _ _ => ok_field rfl fld64_1) hS rfl ?_
              refine WO.quiet rfl (fun _ hw => ok_load rfl one9 (Kp.cell hw (rd_name hr ho j hlt) (fun f => f))) hS rfl ?_
              refine WO.quiet rfl (fun _ _ => build35 (ho _ (List.getElem_mem hlt)) rfl rfl) hS rfl ?_
              refine WO.loudCall rfl (ok_callF rfl isfn31) rfl (shelfPut l[j].key l[j].name [] none 0 (ho _ (List.getElem_mem hlt)) (hnm _ (List.getElem_mem hlt)) (by simp) _ (fun h => absurd rfl h) (hSh.ext (Kp.drew _ _)) (Nat.le_trans hlo43 hK.size) (hF.inv.mono (ho _ (List.getElem_mem hlt)) _) hF.inv.ne hF.inv.le hrn) ?_
              rintro v w62 ⟨rfl, hS62, hK62⟩
              refine ⟨(inL rfl), ?_⟩
              refine WO.nil ?_
              refine WX.blockN ?_
              refine WX.thenC ?_
              refine WC.region ?_
              refine WL.step (ok_move rfl) rfl ?_
              refine WL.step (ok_add ((j + 1 : Nat) : Int) rfl rfl (by omega) (by omega) (by omega)) rfl ?_
              refine WL.step (ok_assign rfl) rfl ?_
              refine WL.nil ?_
              exact WX.again (j + 1) (by repeat (first | exact trivial | refine ⟨rfl, ?_⟩)) ⟨by omega, _, hS62, by rw [map_take_succ l j hlt]; exact hF.put _ (ho _ (List.getElem_mem hlt)), (hK.trans (Kp.drew _ _)).trans hK62⟩ (by omega)
            ·
              have hge : j = l.length := by have := of_decide_eq_false hc53; omega
              have hF1 : Fil runs (l.map pk) := by rw [hge, List.take_length] at hF; exact hF
              have hdl := ded_length_le (l.map pk)
              rw [List.length_map] at hdl
              refine WC.exit ?_
              refine WX.thenE ?_
              refine WX.thenE ?_
              refine WX.blockHit ?_
              refine WX.thenC ?_
              refine WC.seq ?_
              refine WC.region ?_
              refine WL.step (ok_assign rfl) rfl ?_
              refine WL.nil ?_
              refine WX.thenC ?_
              refine WC.seq ?_
              refine WC.region ?_
              refine WL.step (ok_assign rfl) rfl ?_
              refine WL.nil ?_
              refine WX.thenC ?_
              refine WC.seq ?_
              refine WC.seq ?_
              refine WC.region ?_
              refine WL.step (ok_assign rfl) rfl ?_
              refine WL.nil ?_
              refine WX.thenC ?_
              refine WC.block ?_
              refine WC.loop (fun x : Nat × Nat × Nat => [(0, .slice a' l.length cap'), (2, .string n), (4, .pointer (some ⟨b4, 0, none⟩)), (7, .pointer (some ⟨sb, 0, none⟩)), (9, .int .i64 (x.1 : Nat)), (10, .int .i64 (x.2.1 : Nat)), (11, .int .i64 (x.2.2 : Nat))])
                (fun x w' => x.2.2 ≤ l.length ∧ x.1 ≤ x.2.2 ∧ x.2.1 ≤ x.2.2 ∧ x.1 + (ded ((l.drop x.2.2).map pk)).length = (ded (l.map pk)).length ∧ x.2.1 + (ded ((l.drop x.2.2).map pk)).countP (lt2 · (k, n.toList)) = (ded (l.map pk)).countP (lt2 · (k, n.toList)) ∧ Ext w2 w') (fun x => l.length - x.2.2) (0, 0, 0) (by repeat (first | exact trivial | refine ⟨rfl, ?_⟩)) ?_ ?_
              · exact ⟨by simp, by simp, by simp, by simp, by simp, Kp.refl _ _⟩
              rintro ⟨d, c, j⟩ w3 ⟨hjn2, hdj1, hcj1, hdd, hcc, hEc⟩
              dsimp only at hjn2 hdj1 hcj1 hdd hcc hEc
              dsimp only
              have hI2 := (hI1.ext hEc)
              have h4c := h4b.ext hEc
              refine WC.seq ?_
              refine WC.seq ?_
              refine WC.region ?_
              refine WL.step (ok_move rfl) rfl ?_
              refine WL.step (ok_move rfl) rfl ?_
              refine WL.step (ok_lenSlice rfl Try.underlying57) rfl ?_
              refine WL.step (ok_lss rfl rfl) rfl ?_
              refine WL.nil ?_
              refine WX.thenC ?_
              refine WC.cond rfl (fun hc72 => ?_) (fun hc72 => ?_)
              ·
                have hlt : j < l.length := by have := of_decide_eq_true hc72; omega
                obtain ⟨b, off, rfl, hr⟩ := hI2.at hlt
                have hdj := ded_drop l j hlt
                refine WC.skip ?_
                refine WX.thenC ?_
                refine WC.seq ?_
                refine WC.block ?_
                refine WC.seq ?_
                refine WC.seq ?_
                refine WC.region ?_
                refine WL.step (ok_move rfl) rfl ?_
                refine WL.step (ok_move rfl) rfl ?_
                refine WL.call (ok_callF rfl isfn36) rfl (laterSamePair l ho _ cap' j hlt (by omega) _ hI2) ?_
                rintro v w71 ⟨rfl, hE71⟩
                refine WL.nil ?_
                refine WX.thenC ?_
                refine WC.cond rfl (fun hc77 => ?_) (fun hc77 => ?_)
                ·
                  rw [hc77, if_pos rfl] at hdj
                  refine WC.exit ?_
                  refine WX.thenE ?_
                  refine WX.blockHit ?_
                  refine WX.thenC ?_
                  refine WC.region ?_
                  refine WL.step (ok_move rfl) rfl ?_
                  refine WL.step (ok_add ((j + 1 : Nat) : Int) rfl rfl (by omega) (by omega) (by omega)) rfl ?_
                  refine WL.step (ok_assign rfl) rfl ?_
                  refine WL.nil ?_
                  exact WX.again (d, c, j + 1) (by repeat (first | exact trivial | refine ⟨rfl, ?_⟩)) ⟨by show j + 1 ≤ _; omega, by show d ≤ j + 1; omega, by show c ≤ j + 1; omega, by rw [hdj] at hdd; exact hdd, by rw [hdj] at hcc; exact hcc, hEc.trans hE71⟩ (by show l.length - (j + 1) < l.length - j; omega)
                ·
                  rw [hc77, if_neg (by decide)] at hdj
                  refine WC.skip ?_
                  refine WX.thenC ?_
                  refine WC.seq ?_
                  refine WC.region ?_
                  refine WL.step (ok_move rfl) rfl ?_
                  refine WL.step (ok_add ((d + 1 : Nat) : Int) rfl rfl (by omega) (by omega) (by omega)) rfl ?_
                  refine WL.step (ok_assign rfl) rfl ?_
                  refine WL.nil ?_
                  refine WX.thenC ?_
                  refine WC.seq ?_
                  refine WC.drawE [12] 5 [(0, true), (1, true), (2, true), (3, true), (4, true), (5, true), (6, true), (7, true), (8, true), (9, true), (10, true), (11, true), (12, false)] mixed (by kernel_rfl) (fun hS => ?_)
                  refine WO.quiet rfl (fun _ _ => ok_move rfl) hS rfl ?_
                  refine WO.quiet rfl (fun _ _ => ok_move rfl) hS rfl ?_
                  refine WO.quiet rfl (fun _ _ => ok_indexS _ rfl rfl rfl (by omega) Try.underlying57 sz64) hS rfl ?_
                  refine WO.quiet rfl (fun _ _ => ok_field rfl fld64_0) hS rfl ?_
                  refine WO.quiet rfl (fun _ hw => ok_loadN rfl agg29 sz29 (by simp [ho _ (List.getElem_mem hlt)]) (Rd.kp (rd_key (hr.kp hE71 (fun f => f)) ho j hlt) hw (fun f => f))) hS rfl ?_
                  refine WO.quiet rfl (fun _ _ => ok_move rfl) hS rfl ?_
                  refine WO.quiet rfl (fun _ _ => ok_move rfl) hS rfl ?_
                  refine WO.quiet rfl (fun _ _ => ok_indexS _ rfl rfl rfl (by omega) Try.underlying57 sz64) hS rfl ?_
                  refine WO.quiet rfl (fun _ _ => ok_field rfl fld64_1) hS rfl ?_
                  refine WO.quiet rfl (fun _ hw => ok_load rfl one9 (Kp.cell hw (rd_name (hr.kp hE71 (fun f => f)) ho j hlt) (fun f => f))) hS rfl ?_
                  refine WO.quiet rfl (fun _ hw => ok_loadN rfl agg29 sz29 (by simp [hk]) (Rd.kp ((h4c.ext hE71).rd0) hw (fun f => f))) hS rfl ?_
                  refine WO.quiet rfl (fun _ _ => ok_move rfl) hS rfl ?_
                  refine WO.loudCall rfl (ok_callF rfl isfn20) rfl (lessPair l[j].key k l[j].name n (ho _ (List.getElem_mem hlt)) hk _) ?_
                  rintro v w86 ⟨rfl, hE86⟩
                  refine ⟨(inL rfl), ?_⟩
                  refine WO.nil ?_
                  refine WX.thenC ?_
                  refine WC.cond rfl (fun hc92 => ?_) (fun hc92 => ?_)
                  ·
                    refine WC.region ?_
                    refine WL.step (ok_move rfl) rfl ?_
                    refine WL.step (ok_add ((c + 1 : Nat) : Int) rfl rfl (by omega) (by omega) (by omega)) rfl ?_
                    refine WL.step (ok_assign rfl) rfl ?_
                    refine WL.nil ?_
                    refine WX.blockN ?_
                    refine WX.thenC ?_
                    refine WC.region ?_
                    refine WL.step (ok_move rfl) rfl ?_
                    refine WL.step (ok_add ((j + 1 : Nat) : Int) rfl rfl (by omega) (by omega) (by omega)) rfl ?_
                    refine WL.step (ok_assign rfl) rfl ?_
                    refine WL.nil ?_
                    exact WX.again (d + 1, c + 1, j + 1) (by repeat (first | exact trivial | refine ⟨rfl, ?_⟩)) ⟨by show j + 1 ≤ _; omega, by show d + 1 ≤ j + 1; omega, by show c + 1 ≤ j + 1; omega, cntLen hdj hdd, cntPos hdj (show lt2 (pk l[j]) (k, n.toList) = true from hc92) hcc, ((hEc.trans hE71).trans (Kp.drew _ _)).trans hE86⟩ (by show l.length - (j + 1) < l.length - j; omega)
                  ·
                    refine WC.skip ?_
                    refine WX.blockN ?_
                    refine WX.thenC ?_
                    refine WC.region ?_
                    refine WL.step (ok_move rfl) rfl ?_
                    refine WL.step (ok_add ((j + 1 : Nat) : Int) rfl rfl (by omega) (by omega) (by omega)) rfl ?_
                    refine WL.step (ok_assign rfl) rfl ?_
                    refine WL.nil ?_
                    exact WX.again (d + 1, c, j + 1) (by repeat (first | exact trivial | refine ⟨rfl, ?_⟩)) ⟨by show j + 1 ≤ _; omega, by show d + 1 ≤ j + 1; omega, by show c ≤ j + 1; omega, cntLen hdj hdd, cntNeg hdj (show lt2 (pk l[j]) (k, n.toList) = false from hc92) hcc, ((hEc.trans hE71).trans (Kp.drew _ _)).trans hE86⟩ (by show l.length - (j + 1) < l.length - j; omega)
              ·
                have hge2 : j = l.length := by have := of_decide_eq_false hc72; omega
                have hd2 : d = (ded (l.map pk)).length := by rw [hge2, List.drop_length] at hdd; simpa [ded] using hdd
                have hcr : c = cntF (geP k n.toList) runs.flatten := by rw [hge2, List.drop_length] at hcc; rw [cntF_rank, hF1.count]; simpa [ded] using hcc
                have hSh1 := hSh
                have hEx := hEc
                have hS1 := hSh1.ext hEx
                obtain ⟨hd, rs, g, hOs, hRs, hnf, rfl, hlsb, hlfp⟩ := hS1
                obtain ⟨ha, hcap, rfl⟩ := hRs.hdl
                have hrsl : rs.length ≤ l.length := by have := hF1.inv.runs_le; have := hF1.len; rw [slots_length] at *; simp at this; omega
                have hlen : (lens (slots rs)).length = rs.length := by simp [lens, slots]
                have hsm : sumL (lens (slots rs)) ≤ 4096 := by have := hF1.sum; omega
                refine WC.exit ?_
                refine WX.thenE ?_
                refine WX.thenE ?_
                refine WX.blockHit ?_
                refine WX.thenC ?_
                refine WC.seq ?_
                refine WC.region ?_
                refine WL.step (ok_move rfl) rfl ?_
                refine WL.call (ok_callF rfl isfn21) rfl (shelfRuns sb 0 _ _ (by rw [hOs.cell]; rfl)) ?_
                rintro v w96 ⟨rfl, hw96⟩
                subst hw96
                refine WL.step (ok_assign rfl) rfl ?_
                refine WL.nil ?_
                refine WX.thenC ?_
                refine WC.seq ?_
                refine WC.seq ?_
                refine WC.region ?_
                refine WL.step (ok_move rfl) rfl ?_
                refine WL.step (ok_lenSlice rfl Try.underlying45) rfl ?_
                refine WL.step (ok_move rfl) rfl ?_
                refine WL.step (ok_lenSlice rfl Try.underlying57) rfl ?_
                refine WL.step (ok_gtr rfl rfl) rfl ?_
                refine WL.nil ?_
                refine WX.thenC ?_
                refine WC.condFb rfl (decide_eq_false (by omega)) ?_
                refine WC.skip ?_
                refine WX.thenC ?_
                refine WC.seq ?_
                refine WC.region ?_
                refine WL.step (ok_move rfl) rfl ?_
                refine WL.step (ok_lenSlice rfl Try.underlying45) rfl ?_
                refine WL.rew 103 (.int .i64 ((lens (slots rs)).length : Nat)) rfl (by rw [hlen]) ?_
                refine WL.make ((lens (slots rs)).length) elt43 rfl (by omega) (by omega) rfl ?_
                intro b104 w104 c104 hb104 ho104 hl104 hz104 hk104 hs104
                refine WL.step (ok_assign rfl) rfl ?_
                refine WL.nil ?_
                refine WX.thenC ?_
                refine WC.seq ?_
                refine WC.region ?_
                refine WL.step (ok_assign rfl) rfl ?_
                refine WL.nil ?_
                refine WX.thenC ?_
                refine WC.seq ?_
                refine WC.seq ?_
                refine WC.region ?_
                refine WL.step (ok_assign rfl) rfl ?_
                refine WL.nil ?_
                refine WX.thenC ?_
                refine WC.block ?_
                refine WC.loop (fun j : Nat => [(2, .string n), (4, .pointer (some ⟨b4, 0, none⟩)), (7, .pointer (some ⟨sb, 0, none⟩)), (9, .int .i64 (d : Nat)), (10, .int .i64 (c : Nat)), (12, .slice ha rs.length hcap), (13, .slice (some ⟨b104, 0, none⟩) (lens (slots rs)).length (lens (slots rs)).length), (14, .int .i64 (sumL ((lens (slots rs)).take j) : Nat)), (15, .int .i64 (j : Nat))])
                  (fun j w' => j ≤ rs.length ∧ (∃ rest, Own w' b104 3 (nc ((lens (slots rs)).take j) ++ rest) ∧ rest.length = rs.length - j) ∧ Ext w96 w') (fun j => rs.length - j) 0 (by repeat (first | exact trivial | refine ⟨rfl, ?_⟩)) ?_ ?_
                · exact ⟨by omega, ⟨c104, by simpa [nc] using ho104, by simp [hl104, hlen]⟩, hk104⟩
                rintro j w4 ⟨hjn3, ⟨rest, hOl, hrest⟩, hE2⟩
                refine WC.seq ?_
                refine WC.seq ?_
                refine WC.region ?_
                refine WL.step (ok_move rfl) rfl ?_
                refine WL.step (ok_move rfl) rfl ?_
                refine WL.step (ok_lenSlice rfl Try.underlying45) rfl ?_
                refine WL.step (ok_lss rfl rfl) rfl ?_
                refine WL.nil ?_
                refine WX.thenC ?_
                refine WC.cond rfl (fun hc108 => ?_) (fun hc108 => ?_)
                ·
                  have hlt : j < rs.length := by have := of_decide_eq_true hc108; omega
                  obtain ⟨gb, hcap', spg, heq, rfl, hOg, hcl⟩ := (hRs.ext hE2).hd (by intro e; rw [e] at hlt; simp at hlt)
                  cases heq
                  refine WC.skip ?_
                  refine WX.thenC ?_
                  refine WC.seq ?_
                  refine WC.block ?_
                  refine WC.seq ?_
                  refine WC.region ?_
                  refine WL.step (ok_move rfl) rfl ?_
                  refine WL.step (ok_move rfl) rfl ?_
                  refine WL.step (ok_move rfl) rfl ?_
                  refine WL.step (ok_move rfl) rfl ?_
                  refine WL.step (ok_indexS _ rfl rfl rfl (by omega) Try.underlying45 sz49) rfl ?_
                  refine WL.step (ok_load rfl one49 (rd_hdr hOg j hlt)) rfl ?_
                  refine WL.step (ok_lenSlice rfl Try.underlying49) rfl ?_
                  refine WL.step (ok_indexS _ rfl rfl rfl (by omega) Try.underlying43 sz3) rfl ?_
                  refine WL.store rfl rfl sz3 (hOl) (by simp [Value.cells]) (by simp [Value.cells]; omega) (by simp [Value.cells, Value.oneCell']) ?_
                  intro wr32 hor32 hkr32 hsr32
                  have hor32' : Own wr32 b104 3 (nc ((lens (slots rs)).take (j + 1)) ++ rest.drop 1) := by
                    have := hor32
                    simp only [Value.cells] at this
                    rw [← nc_take_succ (lens (slots rs)) j (by omega) rest rs[j].sl.length (by simp [lens, slots])]
                    exact this
                  have hclr32 : wr32.cell? ⟨b104, 0 + j * 1, none⟩ = some (.int .i64 (rs[j].sl.length : Nat)) := by
                    have := rd_nat (hor32'.rd0.append_left) j (by simp; omega)
                    simpa [lens, slots] using this
                  have hsj := sumL_take_succ (lens (slots rs)) j (by omega)
                  have hsj2 : (lens (slots rs))[j]'(by omega) = rs[j].sl.length := by simp [lens, slots]
                  rw [hsj2] at hsj
                  have hsj3 := sumL_take_le (lens (slots rs)) (j + 1)
                  refine WL.nil ?_
                  refine WX.thenC ?_
                  refine WC.region ?_
                  refine WL.step (ok_move rfl) rfl ?_
                  refine WL.step (ok_move rfl) rfl ?_
                  refine WL.step (ok_move rfl) rfl ?_
                  refine WL.step (ok_indexS _ rfl rfl rfl (by omega) Try.underlying43 sz3) rfl ?_
                  refine WL.step (ok_load rfl one3 (hclr32)) rfl ?_
                  refine WL.step (ok_add ((sumL ((lens (slots rs)).take (j + 1)) : Nat) : Int) rfl rfl (by omega) (by omega) (by omega)) rfl ?_
                  refine WL.step (ok_assign rfl) rfl ?_
                  refine WL.nil ?_
                  refine WX.blockN ?_
                  refine WX.thenC ?_
                  refine WC.region ?_
                  refine WL.step (ok_move rfl) rfl ?_
                  refine WL.step (ok_add ((j + 1 : Nat) : Int) rfl rfl (by omega) (by omega) (by omega)) rfl ?_
                  refine WL.step (ok_assign rfl) rfl ?_
                  refine WL.nil ?_
                  exact WX.again (j + 1) (by repeat (first | exact trivial | refine ⟨rfl, ?_⟩)) ⟨by omega, ⟨rest.drop 1, hor32', by simp [hrest]; omega⟩, hE2.over hkr32 (fun i hi e => by omega)⟩ (by omega)
                ·
                  have hge3 : j = rs.length := by have := of_decide_eq_false hc108; omega
                  have hheld : sumL ((lens (slots rs)).take j) = d := by rw [hge3, sumL_take_all _ _ (by omega), hF1.sum, hd2]
                  have hRl : Rd w4 b104 0 (nc (lens (slots rs))) := by rw [hge3, ← hlen, List.take_length] at hOl; exact hOl.rd0.append_left
                  obtain ⟨r, i, hpl⟩ : ∃ r i, placeOf (lens (slots rs)) c = (r, i) := ⟨_, _, rfl⟩
                  have hpl2 : placeOf (lens (slots rs)) (cntF (geP k n.toList) (slots rs).flatten) = (r, i) := by rw [← hcr]; exact hpl
                  have hrle : r ≤ (lens (slots rs)).length := by have := placeOf_le (lens (slots rs)) c; rw [hpl] at this; exact this
                  refine WC.exit ?_
                  refine WX.thenE ?_
                  refine WX.thenE ?_
                  refine WX.blockHit ?_
                  refine WX.thenC ?_
                  refine WC.seq ?_
                  refine WC.seq ?_
                  refine WC.region ?_
                  refine WL.step (ok_move rfl) rfl ?_
                  refine WL.step (ok_move rfl) rfl ?_
                  refine WL.step (ok_neq rfl rfl) rfl ?_
                  refine WL.step (ok_move rfl) rfl ?_
                  refine WL.rew 128 (.bool false) rfl (congrArg Value.bool (by rw [hheld]; simp)) ?_
                  refine WL.on rfl rfl ?_
                  refine WL.step (ok_move rfl) rfl ?_
                  refine WL.on rfl rfl ?_
                  refine WL.call (ok_callF rfl isfn23) rfl (runsBounded (lens (slots rs)) hF1.inv.bd b104 0 _ (by omega) _ hRl) ?_
                  rintro v w130 ⟨rfl, hE130⟩
                  refine WL.on rfl rfl ?_
                  refine WL.step (ok_not rfl) rfl ?_
                  refine WL.step (ok_pickF rfl rfl) rfl ?_
                  refine WL.nil ?_
                  refine WX.thenC ?_
                  refine WC.condFb rfl rfl ?_
                  refine WC.skip ?_
                  refine WX.thenC ?_
                  refine WC.seq ?_
                  refine WC.region ?_
                  refine WL.step (ok_move rfl) rfl ?_
                  refine WL.step (ok_move rfl) rfl ?_
                  refine WL.call (ok_callF rfl isfn33) rfl (placeOfW (lens (slots rs)) c b104 0 _ (by omega) (by omega) (by omega) _ (hRl.kp hE130 (fun f => f))) ?_
                  rintro v w136 ⟨hv136, hE136⟩
                  simp only [hpl] at hv136
                  subst hv136
                  have hEz := (hE2.trans hE130).trans hE136
                  have hEy := hEx.trans hEz
                  have hRz : Rd w136 b104 0 (nc (lens (slots rs))) := (hRl.kp hE130 (fun f => f)).kp hE136 (fun f => f)
                  refine WL.step (ok_move rfl) rfl ?_
                  refine WL.step (ok_extract rfl rfl) rfl ?_
                  refine WL.step (ok_extract rfl rfl) rfl ?_
                  refine WL.step (ok_assign rfl) rfl ?_
                  refine WL.step (ok_assign rfl) rfl ?_
                  refine WL.nil ?_
                  refine WX.thenC ?_
                  refine WC.seq ?_
                  refine WC.region ?_
                  refine WL.step (ok_assign rfl) rfl ?_
                  refine WL.nil ?_
                  refine WX.thenC ?_
                  refine WC.cut (fun x : Option Addr × Nat => [(2, .string n), (4, .pointer (some ⟨b4, 0, none⟩)), (7, .pointer (some ⟨sb, 0, none⟩)), (16, .int .i64 (r : Nat)), (17, .int .i64 (i : Nat)), (18, .slice x.1 (insL (lens (slots rs)) r).length x.2)])
                    (fun x w' => (∃ g, Slo w' (.slice x.1 (insL (lens (slots rs)) r).length x.2) 3 1 (insL (lens (slots rs)) r).length (nc (insL (lens (slots rs)) r)) g ∧ (∀ b, g = some b → w136.heap.size ≤ b)) ∧ Ext w136 w') ?_ ?_
                  ·
                    refine WC.seq ?_
                    refine WC.region ?_
                    refine WL.step (ok_move rfl) rfl ?_
                    refine WL.step (ok_lenSlice rfl Try.underlying43) rfl ?_
                    refine WL.step (ok_eql rfl rfl) rfl ?_
                    refine WL.nil ?_
                    refine WX.thenC ?_
                    refine WC.cond rfl (fun hc141 => ?_) (fun hc141 => ?_)
                    ·
                      have hnil : lens (slots rs) = [] := List.eq_nil_of_length_eq_zero (by have := of_decide_eq_true hc141; omega)
                      have hins : insL (lens (slots rs)) r = [1] := by rw [hnil]; simp [insL]
                      refine WC.region ?_
                      refine WL.step (ok_move rfl) rfl ?_
                      refine WL.buildSlice (size := 1) (nc [1]) elt43 (by decide) (by decide) rfl (fill_one 1 _ (.int .i64 ((1 : Nat) : Int)) (by simp) rfl) rfl ?_
                      intro b143 w143 hb143 ho143 hk143 hs143
                      refine WL.append (c := 1) (b := b143) (off := 0) (m := 1) (news := nc [1]) (n := 0) (xs := []) (v := .slice none 0 0) (g := none) rfl rfl rfl elt43 (.inl ⟨rfl, rfl, rfl, rfl⟩) rfl ho143.rd0 (nc_one _) (by decide) (by omega) (by omega) ?_
                      intro v144 w144 g144 hS144 hK144 hg144
                      have hS144' := hS144
                      obtain ⟨b', cap', sp', rfl, hB, hBl, hBc, hcap1, rfl⟩ := hS144.some (by omega)
                      refine WL.rew 144 (.slice (some ⟨b', 0, none⟩) (insL (lens (slots rs)) r).length cap') rfl (by rw [hins]; rfl) ?_
                      refine WL.step (ok_assign rfl) rfl ?_
                      refine WL.nil ?_
                      exact WX.again (some ⟨b', 0, none⟩, cap') (by repeat (first | exact trivial | refine ⟨rfl, ?_⟩)) ⟨⟨_, sloNext (L := []) hS144' hins rfl, by intro b hb; cases hb; exact hg144.elim (fun h => by cases h) (fun h => by have := Option.some.inj h.1; have := hk143.size; omega)⟩, hk143.over hK144 (fun k h1 h2 => by cases h2)⟩ Nat.zero_lt_one
                    ·
                      have hne : lens (slots rs) ≠ [] := by intro h; rw [h] at hc141; simp at hc141
                      have hposl : 0 < (lens (slots rs)).length := List.length_pos_iff.2 hne
                      refine WC.seq ?_
                      refine WC.region ?_
                      refine WL.step (ok_move rfl) rfl ?_
                      refine WL.step (ok_assign rfl) rfl ?_
                      refine WL.nil ?_
                      refine WX.thenC ?_
                      refine WC.cut (fun q : Nat => [(2, .string n), (4, .pointer (some ⟨b4, 0, none⟩)), (7, .pointer (some ⟨sb, 0, none⟩)), (13, .slice (some ⟨b104, 0, none⟩) (lens (slots rs)).length (lens (slots rs)).length), (16, .int .i64 (r : Nat)), (17, .int .i64 (i : Nat)), (18, .slice none 0 0), (19, .int .i64 (q : Nat))])
                        (fun q w' => q = (if r = (lens (slots rs)).length then r - 1 else r) ∧ Ext w136 w') ?_ ?_
                      ·
                        refine WC.seq ?_
                        refine WC.region ?_
                        refine WL.step (ok_move rfl) rfl ?_
                        refine WL.step (ok_move rfl) rfl ?_
                        refine WL.step (ok_lenSlice rfl Try.underlying43) rfl ?_
                        refine WL.step (ok_eql rfl rfl) rfl ?_
                        refine WL.nil ?_
                        refine WX.thenC ?_
                        refine WC.cond rfl (fun hc149 => ?_) (fun hc149 => ?_)
                        ·
                          have hre : r = (lens (slots rs)).length := by have := of_decide_eq_true hc149; omega
                          refine WC.region ?_
                          refine WL.step (ok_move rfl) rfl ?_
                          refine WL.step (ok_lenSlice rfl Try.underlying43) rfl ?_
                          refine WL.step (ok_sub (((lens (slots rs)).length - 1 : Nat) : Int) rfl rfl (by omega) (by omega) (by omega)) rfl ?_
                          refine WL.step (ok_assign rfl) rfl ?_
                          refine WL.nil ?_
                          exact WX.again ((lens (slots rs)).length - 1) (by repeat (first | exact trivial | refine ⟨rfl, ?_⟩)) ⟨by rw [if_pos hre, hre], Kp.refl _ _⟩ Nat.zero_lt_one
                        ·
                          have hre : r ≠ (lens (slots rs)).length := by have := of_decide_eq_false hc149; omega
                          refine WC.skip ?_
                          exact WX.again r (by repeat (first | exact trivial | refine ⟨rfl, ?_⟩)) ⟨by rw [if_neg hre], Kp.refl _ _⟩ Nat.zero_lt_one
                      ·
                        rintro q w7 ⟨hq, hE7⟩
                        refine WC.seq ?_
                        refine WC.region ?_
                        refine WL.step (ok_assign rfl) rfl ?_
                        refine WL.nil ?_
                        refine WX.thenC ?_
                        refine WC.block ?_
                        refine WC.loop (fun x : Nat × Option Addr × Nat => [(2, .string n), (4, .pointer (some ⟨b4, 0, none⟩)), (7, .pointer (some ⟨sb, 0, none⟩)), (13, .slice (some ⟨b104, 0, none⟩) (lens (slots rs)).length (lens (slots rs)).length), (16, .int .i64 (r : Nat)), (17, .int .i64 (i : Nat)), (18, .slice x.2.1 (insP (lens (slots rs)) q x.1).length x.2.2), (19, .int .i64 (q : Nat)), (20, .int .i64 (x.1 : Nat))])
                          (fun x w' => x.1 ≤ (lens (slots rs)).length ∧ (∃ g, Slo w' (.slice x.2.1 (insP (lens (slots rs)) q x.1).length x.2.2) 3 1 (insP (lens (slots rs)) q x.1).length (nc (insP (lens (slots rs)) q x.1)) g ∧ (∀ b, g = some b → w136.heap.size ≤ b)) ∧ Ext w136 w') (fun x => (lens (slots rs)).length - x.1) (0, none, 0) (by repeat (first | exact trivial | refine ⟨rfl, ?_⟩)) ?_ ?_
                        · exact ⟨by simp, ⟨none, .inl ⟨rfl, rfl, rfl, rfl⟩, by intro b h; cases h⟩, hE7⟩
                        rintro ⟨j, av, cv⟩ w5 ⟨hj5, ⟨g5, hS5, hg5⟩, hE5⟩
                        dsimp only at hj5 hS5 hE5
                        dsimp only
                        have hil5 := insP_len (lens (slots rs)) q j
                        refine WC.seq ?_
                        refine WC.seq ?_
                        refine WC.region ?_
                        refine WL.step (ok_move rfl) rfl ?_
                        refine WL.step (ok_move rfl) rfl ?_
                        refine WL.step (ok_lenSlice rfl Try.underlying43) rfl ?_
                        refine WL.step (ok_lss rfl rfl) rfl ?_
                        refine WL.nil ?_
                        refine WX.thenC ?_
                        refine WC.cond rfl (fun hc156 => ?_) (fun hc156 => ?_)
                        ·
                          have hlt5 : j < (lens (slots rs)).length := by have := of_decide_eq_true hc156; omega
                          have hcz : w5.cell? ⟨b104, 0 + j * 1, none⟩ = some (.int .i64 ((lens (slots rs))[j] : Nat)) := rd_nat (hRz.kp hE5 (fun f => f)) j hlt5
                          have hbd := (hF1.inv.bd j hlt5).2.1
                          refine WC.skip ?_
                          refine WX.thenC ?_
                          refine WC.seq ?_
                          refine WC.block ?_
                          refine WC.seq ?_
                          refine WC.region ?_
                          refine WL.step (ok_move rfl) rfl ?_
                          refine WL.step (ok_move rfl) rfl ?_
                          refine WL.step (ok_neq rfl rfl) rfl ?_
                          refine WL.nil ?_
                          refine WX.thenC ?_
                          refine WC.cond rfl (fun hc161 => ?_) (fun hc161 => ?_)
                          ·
                            have hne1 : j ≠ q := by have := neqT hc161; omega
                            refine WC.region ?_
                            refine WL.step (ok_move rfl) rfl ?_
                            refine WL.step (ok_move rfl) rfl ?_
                            refine WL.step (ok_move rfl) rfl ?_
                            refine WL.step (ok_indexS _ rfl rfl rfl (by omega) Try.underlying43 sz3) rfl ?_
                            refine WL.step (ok_load rfl one3 (hcz)) rfl ?_
                            refine WL.buildSlice (size := 1) (nc [(lens (slots rs))[j]]) elt43 (by decide) (by decide) rfl (fill_one 1 _ (.int .i64 (((lens (slots rs))[j] : Nat) : Int)) (by simp) rfl) rfl ?_
                            intro b167 w167 hb167 ho167 hk167 hs167
                            refine WL.append (c := 1) (b := b167) (off := 0) (m := 1) (news := nc [(lens (slots rs))[j]]) (n := (insP (lens (slots rs)) q j).length) (xs := nc (insP (lens (slots rs)) q j)) (v := .slice av (insP (lens (slots rs)) q j).length cv) (g := g5) rfl rfl rfl elt43 (hS5.kp hk167 (fun _ _ f => f)) rfl ho167.rd0 (nc_one _) (by decide) (by omega) (by omega) ?_
                            intro v168 w168 g168 hS168 hK168 hg168
                            have hS168' := hS168
                            obtain ⟨b', cap', sp', rfl, hB, hBl, hBc, hcap1, rfl⟩ := hS168.some (by omega)
                            have hgn : ∀ b, some b' = some b → w136.heap.size ≤ b := by
                              intro b hb
                              cases hb
                              rcases hg168 with h | ⟨h, _⟩
                              · exact hg5 b' h.symm
                              · cases h; exact Nat.le_trans hE5.size hk167.size
                            refine WL.rew 168 (.slice (some ⟨b', 0, none⟩) (insP (lens (slots rs)) q (j + 1)).length cap') rfl (by rw [insP_ne hne1 hlt5]; simp) ?_
                            refine WL.step (ok_assign rfl) rfl ?_
                            refine WL.nil ?_
                            refine WX.blockN ?_
                            refine WX.thenC ?_
                            refine WC.region ?_
                            refine WL.step (ok_move rfl) rfl ?_
                            refine WL.step (ok_add ((j + 1 : Nat) : Int) rfl rfl (by omega) (by omega) (by omega)) rfl ?_
                            refine WL.step (ok_assign rfl) rfl ?_
                            refine WL.nil ?_
                            exact WX.again (j + 1, some ⟨b', 0, none⟩, cap') (by repeat (first | exact trivial | refine ⟨rfl, ?_⟩)) ⟨by show j + 1 ≤ _; omega, ⟨_, sloNext hS168' (insP_ne hne1 hlt5) rfl, hgn⟩, (hE5.trans hk167).over hK168 (fun k h1 h2 => by have := hg5 k h2; omega)⟩ (by show _ - (j + 1) < _ - j; omega)
                          ·
                            have heq1 : j = q := by have := neqF hc161; omega
                            refine WC.seq ?_
                            refine WC.region ?_
                            refine WL.step (ok_move rfl) rfl ?_
                            refine WL.step (ok_move rfl) rfl ?_
                            refine WL.step (ok_indexS _ rfl rfl rfl (by omega) Try.underlying43 sz3) rfl ?_
                            refine WL.step (ok_load rfl one3 (hcz)) rfl ?_
                            refine WL.step (ok_lss rfl rfl) rfl ?_
                            refine WL.nil ?_
                            refine WX.thenC ?_
                            refine WC.cond rfl (fun hc173 => ?_) (fun hc173 => ?_)
                            ·
                              have hsmall : (lens (slots rs))[j] < 128 := by have := of_decide_eq_true hc173; omega
                              refine WC.region ?_
                              refine WL.step (ok_move rfl) rfl ?_
                              refine WL.step (ok_move rfl) rfl ?_
                              refine WL.step (ok_move rfl) rfl ?_
                              refine WL.step (ok_indexS _ rfl rfl rfl (by omega) Try.underlying43 sz3) rfl ?_
                              refine WL.step (ok_load rfl one3 (hcz)) rfl ?_
                              refine WL.step (ok_add (((lens (slots rs))[j] + 1 : Nat) : Int) rfl rfl (by omega) (by omega) (by omega)) rfl ?_
                              refine WL.buildSlice (size := 1) (nc [(lens (slots rs))[j] + 1]) elt43 (by decide) (by decide) rfl (fill_one 1 _ (.int .i64 (((lens (slots rs))[j] + 1 : Nat) : Int)) (by simp) rfl) rfl ?_
                              intro b180 w180 hb180 ho180 hk180 hs180
                              refine WL.append (c := 1) (b := b180) (off := 0) (m := 1) (news := nc [(lens (slots rs))[j] + 1]) (n := (insP (lens (slots rs)) q j).length) (xs := nc (insP (lens (slots rs)) q j)) (v := .slice av (insP (lens (slots rs)) q j).length cv) (g := g5) rfl rfl rfl elt43 (hS5.kp hk180 (fun _ _ f => f)) rfl ho180.rd0 (nc_one _) (by decide) (by omega) (by omega) ?_
                              intro v181 w181 g181 hS181 hK181 hg181
                              have hS181' := hS181
                              obtain ⟨b', cap', sp', rfl, hB, hBl, hBc, hcap1, rfl⟩ := hS181.some (by omega)
                              have hgn : ∀ b, some b' = some b → w136.heap.size ≤ b := by
                                intro b hb
                                cases hb
                                rcases hg181 with h | ⟨h, _⟩
                                · exact hg5 b' h.symm
                                · cases h; exact Nat.le_trans hE5.size hk180.size
                              refine WL.rew 181 (.slice (some ⟨b', 0, none⟩) (insP (lens (slots rs)) q (j + 1)).length cap') rfl (by rw [insP_lt heq1 hlt5 hsmall]; simp) ?_
                              refine WL.step (ok_assign rfl) rfl ?_
                              refine WL.nil ?_
                              refine WX.blockN ?_
                              refine WX.thenC ?_
                              refine WC.region ?_
                              refine WL.step (ok_move rfl) rfl ?_
                              refine WL.step (ok_add ((j + 1 : Nat) : Int) rfl rfl (by omega) (by omega) (by omega)) rfl ?_
                              refine WL.step (ok_assign rfl) rfl ?_
                              refine WL.nil ?_
                              exact WX.again (j + 1, some ⟨b', 0, none⟩, cap') (by repeat (first | exact trivial | refine ⟨rfl, ?_⟩)) ⟨by show j + 1 ≤ _; omega, ⟨_, sloNext hS181' (insP_lt heq1 hlt5 hsmall) rfl, hgn⟩, (hE5.trans hk180).over hK181 (fun k h1 h2 => by have := hg5 k h2; omega)⟩ (by show _ - (j + 1) < _ - j; omega)
                            ·
                              have hsmall : ¬ (lens (slots rs))[j] < 128 := by have := of_decide_eq_false hc173; omega
                              refine WC.region ?_
                              refine WL.step (ok_move rfl) rfl ?_
                              refine WL.buildSlice (size := 1) (nc [64, 65]) elt43 (by decide) (by decide) rfl (fill_two _ 64 65 (by simp)) rfl ?_
                              intro b183 w183 hb183 ho183 hk183 hs183
                              refine WL.append (c := 2) (b := b183) (off := 0) (m := 2) (news := nc [64, 65]) (n := (insP (lens (slots rs)) q j).length) (xs := nc (insP (lens (slots rs)) q j)) (v := .slice av (insP (lens (slots rs)) q j).length cv) (g := g5) rfl rfl rfl elt43 (hS5.kp hk183 (fun _ _ f => f)) rfl ho183.rd0 (nc_one _) (by decide) (by omega) (by omega) ?_
                              intro v184 w184 g184 hS184 hK184 hg184
                              have hS184' := hS184
                              obtain ⟨b', cap', sp', rfl, hB, hBl, hBc, hcap1, rfl⟩ := hS184.some (by omega)
                              have hgn : ∀ b, some b' = some b → w136.heap.size ≤ b := by
                                intro b hb
                                cases hb
                                rcases hg184 with h | ⟨h, _⟩
                                · exact hg5 b' h.symm
                                · cases h; exact Nat.le_trans hE5.size hk183.size
                              refine WL.rew 184 (.slice (some ⟨b', 0, none⟩) (insP (lens (slots rs)) q (j + 1)).length cap') rfl (by rw [insP_ge heq1 hlt5 hsmall]; simp) ?_
                              refine WL.step (ok_assign rfl) rfl ?_
                              refine WL.nil ?_
                              refine WX.blockN ?_
                              refine WX.thenC ?_
                              refine WC.region ?_
                              refine WL.step (ok_move rfl) rfl ?_
                              refine WL.step (ok_add ((j + 1 : Nat) : Int) rfl rfl (by omega) (by omega) (by omega)) rfl ?_
                              refine WL.step (ok_assign rfl) rfl ?_
                              refine WL.nil ?_
                              exact WX.again (j + 1, some ⟨b', 0, none⟩, cap') (by repeat (first | exact trivial | refine ⟨rfl, ?_⟩)) ⟨by show j + 1 ≤ _; omega, ⟨_, sloNext hS184' (insP_ge heq1 hlt5 hsmall) rfl, hgn⟩, (hE5.trans hk183).over hK184 (fun k h1 h2 => by have := hg5 k h2; omega)⟩ (by show _ - (j + 1) < _ - j; omega)
                        ·
                          have hge5 : j = (lens (slots rs)).length := by have := of_decide_eq_false hc156; omega
                          have hall : insP (lens (slots rs)) q j = insL (lens (slots rs)) r := by rw [hge5]; exact insP_all hne hq hrle
                          rw [hall] at hS5 ⊢
                          refine WC.exit ?_
                          refine WX.thenE ?_
                          refine WX.thenE ?_
                          refine WX.blockHit ?_
                          exact WX.again (av, cv) (by repeat (first | exact trivial | refine ⟨rfl, ?_⟩)) ⟨⟨g5, hS5, hg5⟩, hE5⟩ Nat.zero_lt_one
                  ·
                    rintro ⟨av, cv⟩ w6 ⟨⟨g6, hS6, hg6⟩, hE6⟩
                    dsimp only at hS6 hE6
                    dsimp only
                    have hEy6 := hEy.trans hE6
                    have h46 := h4b.ext hEy6
                    have hlo6 : lo ≤ w6.heap.size := Nat.le_trans hlo43 (Nat.le_trans hK.size hEy6.size)
                    have hz2 := hEy.size
                    refine WC.seq ?_
                    refine WC.region ?_
                    refine WL.step (ok_move rfl) rfl ?_
                    refine WL.step (ok_move rfl) rfl ?_
                    refine WL.step (ok_move rfl) rfl ?_
                    refine WL.step (ok_loadN rfl agg29 sz29 (by simp [hk]) (h46.rd0)) rfl ?_
                    refine WL.step (ok_move rfl) rfl ?_
                    refine WL.step (build35 hk rfl rfl) rfl ?_
                    have hpos : ∀ (h : r < (slots rs).length), i ≤ (slots rs)[r].length := by
                      intro h
                      have := placeOf_snd (lens (slots rs)) c (slots rs)[r].length (by rw [hpl]; simp [lens, h])
                      rw [hpl] at this
                      exact Nat.le_of_lt this
                    refine WL.call (ok_callF rfl isfn41) rfl (shelfInsertH r i k n (.slice none 0 0) 0 hk rfl _ (hSh1.high.ext hEy6) hlo6 hpos (by rw [hlen, ← slots_length] at hrle; exact hrle) hF1.inv.le (by rw [slots_length]; omega)) ?_
                    rintro v w191 ⟨rfl, hS191, hK191⟩
                    obtain ⟨hd2, rs2, g2, hO2, hR2, hnf2, hsl2, hlsb2, hlfp2⟩ := hS191
                    obtain ⟨ha2, hcap2, rfl⟩ := hR2.hdl
                    have hlens : lens (slots rs2) = insL (lens (slots rs)) r := by rw [hsl2]; exact lens_insAt _ List.countP_le_length hpl2 hF1.inv.le
                    have hlen2 : (lens (slots rs2)).length = rs2.length := by simp [lens, slots]
                    have hlw : (insL (lens (slots rs)) r).length = rs2.length := by rw [← hlens]; exact hlen2
                    have hS6' := hS6.kp hK191 (fun b hb => by have := hg6 b hb; omega)
                    have hEfin : Ext w w191 := (hE0.trans hEy6).over hK191 (fun i hi e => by omega)
                    have hrs2 : rs2.length ≤ 8192 := by
                      rw [← hlw]
                      by_cases hnil : lens (slots rs) = []
                      · rw [hnil]; simp [insL]
                      · rw [← insP_all hnil rfl hrle]; exact Nat.le_trans (insP_len _ _ _) (by omega)
                    refine WL.nil ?_
                    refine WX.thenC ?_
                    refine WC.seq ?_
                    refine WC.region ?_
                    refine WL.step (ok_move rfl) rfl ?_
                    refine WL.call (ok_callF rfl isfn21) rfl (shelfRuns sb 0 _ _ (by rw [hO2.cell]; rfl)) ?_
                    rintro v w193 ⟨rfl, hw193⟩
                    subst hw193
                    refine WL.step (ok_assign rfl) rfl ?_
                    refine WL.nil ?_
                    refine WX.thenC ?_
                    refine WC.seq ?_
                    refine WC.seq ?_
                    refine WC.region ?_
                    refine WL.step (ok_move rfl) rfl ?_
                    refine WL.step (ok_lenSlice rfl Try.underlying45) rfl ?_
                    refine WL.step (ok_move rfl) rfl ?_
                    refine WL.step (ok_lenSlice rfl Try.underlying43) rfl ?_
                    refine WL.step (ok_neq rfl rfl) rfl ?_
                    refine WL.nil ?_
                    refine WX.thenC ?_
                    refine WC.condFb rfl (by rw [hlw]; simp) ?_
                    refine WC.skip ?_
                    refine WX.thenC ?_
                    refine WC.seq ?_
                    refine WC.region ?_
                    refine WL.step (ok_move rfl) rfl ?_
                    refine WL.step (ok_lenSlice rfl Try.underlying45) rfl ?_
                    refine WL.rew 200 (.int .i64 ((lens (slots rs2)).length : Nat)) rfl (by rw [hlen2]) ?_
                    refine WL.make ((lens (slots rs2)).length) elt43 rfl (by omega) (by omega) rfl ?_
                    intro b201 w201 c201 hb201 ho201 hl201 hz201 hk201 hs201
                    refine WL.step (ok_assign rfl) rfl ?_
                    refine WL.nil ?_
                    refine WX.thenC ?_
                    refine WC.seq ?_
                    refine WC.seq ?_
                    refine WC.region ?_
                    refine WL.step (ok_assign rfl) rfl ?_
                    refine WL.nil ?_
                    refine WX.thenC ?_
                    refine WC.block ?_
                    refine WC.loop (fun j : Nat => [(12, .slice ha2 rs2.length hcap2), (18, .slice av (insL (lens (slots rs)) r).length cv), (21, .slice (some ⟨b201, 0, none⟩) (lens (slots rs2)).length (lens (slots rs2)).length), (22, .int .i64 (j : Nat))])
                      (fun j w' => j ≤ rs2.length ∧ (∃ rest, Own w' b201 3 (nc ((lens (slots rs2)).take j) ++ rest) ∧ rest.length = rs2.length - j) ∧ Ext w193 w') (fun j => rs2.length - j) 0 (by repeat (first | exact trivial | refine ⟨rfl, ?_⟩)) ?_ ?_
                    · exact ⟨by omega, ⟨c201, by simpa [nc] using ho201, by simp [hl201, hlen2]⟩, hk201⟩
                    rintro j w8 ⟨hjn8, ⟨rest, hOl, hrest⟩, hE8⟩
                    refine WC.seq ?_
                    refine WC.seq ?_
                    refine WC.region ?_
                    refine WL.step (ok_move rfl) rfl ?_
                    refine WL.step (ok_move rfl) rfl ?_
                    refine WL.step (ok_lenSlice rfl Try.underlying45) rfl ?_
                    refine WL.step (ok_lss rfl rfl) rfl ?_
                    refine WL.nil ?_
                    refine WX.thenC ?_
                    refine WC.cond rfl (fun hc205 => ?_) (fun hc205 => ?_)
                    ·
                      have hlt : j < rs2.length := by have := of_decide_eq_true hc205; omega
                      obtain ⟨gb2, hcap2', spg2, heq2, rfl, hOg2, hcl2⟩ := (hR2.ext hE8).hd (by intro e; rw [e] at hlt; simp at hlt)
                      cases heq2
                      refine WC.skip ?_
                      refine WX.thenC ?_
                      refine WC.seq ?_
                      refine WC.block ?_
                      refine WC.seq ?_
                      refine WC.region ?_
                      refine WL.step (ok_move rfl) rfl ?_
                      refine WL.step (ok_move rfl) rfl ?_
                      refine WL.step (ok_move rfl) rfl ?_
                      refine WL.step (ok_move rfl) rfl ?_
                      refine WL.step (ok_indexS _ rfl rfl rfl (by omega) Try.underlying45 sz49) rfl ?_
                      refine WL.step (ok_load rfl one49 (rd_hdr hOg2 j hlt)) rfl ?_
                      refine WL.step (ok_lenSlice rfl Try.underlying49) rfl ?_
                      refine WL.step (ok_indexS _ rfl rfl rfl (by omega) Try.underlying43 sz3) rfl ?_
                      refine WL.store rfl rfl sz3 (hOl) (by simp [Value.cells]) (by simp [Value.cells]; omega) (by simp [Value.cells, Value.oneCell']) ?_
                      intro wr59 hor59 hkr59 hsr59
                      have hor59' : Own wr59 b201 3 (nc ((lens (slots rs2)).take (j + 1)) ++ rest.drop 1) := by
                        have := hor59
                        simp only [Value.cells] at this
                        rw [← nc_take_succ (lens (slots rs2)) j (by omega) rest rs2[j].sl.length (by simp [lens, slots])]
                        exact this
                      have hclr59 : wr59.cell? ⟨b201, 0 + j * 1, none⟩ = some (.int .i64 (rs2[j].sl.length : Nat)) := by
                        have := rd_nat (hor59'.rd0.append_left) j (by simp; omega)
                        simpa [lens, slots] using this
                      obtain ⟨bw, capw, spw, heqw, hOw, _, _, _, hgw⟩ := hS6'.some (by omega)
                      cases heqw
                      have hwl := hS6'.lt bw hgw
                      have hcw : wr59.cell? ⟨bw, 0 + j * 1, none⟩ = some (.int .i64 (rs2[j].sl.length : Nat)) := by
                        have h1 := rd_nat (l := insL (lens (slots rs)) r) (((hkr59.own (hOw.ext hE8) (by omega)).rd0).append_left) j (by omega)
                        rw [h1]
                        congr 2
                        have : (insL (lens (slots rs)) r)[j]'(by omega) = (lens (slots rs2))[j]'(by omega) := by simp only [hlens]
                        rw [this]; simp [lens, slots]
                      refine WL.nil ?_
                      refine WX.thenC ?_
                      refine WC.seq ?_
                      refine WC.drawE [] 4 [(0, true), (1, true), (2, true), (3, true), (4, true), (5, true), (6, true), (7, true), (8, true)] mixed (by kernel_rfl) (fun hS => ?_)
                      refine WO.quiet rfl (fun _ _ => ok_move rfl) hS rfl ?_
                      refine WO.quiet rfl (fun _ _ => ok_move rfl) hS rfl ?_
                      refine WO.quiet rfl (fun _ _ => ok_indexS _ rfl rfl rfl (by omega) Try.underlying43 sz3) hS rfl ?_
                      refine WO.quiet rfl (fun _ hw => ok_load rfl one3 (Kp.cell hw (hclr59) (fun f => f))) hS rfl ?_
                      refine WO.quiet rfl (fun _ _ => ok_move rfl) hS rfl ?_
                      refine WO.quiet rfl (fun _ _ => ok_move rfl) hS rfl ?_
                      refine WO.quiet rfl (fun _ _ => ok_indexS _ rfl rfl rfl (by omega) Try.underlying43 sz3) hS rfl ?_
                      refine WO.quiet rfl (fun _ hw => ok_load rfl one3 (Kp.cell hw (hcw) (fun f => f))) hS rfl ?_
                      refine WO.quiet rfl (fun _ _ => ok_neq rfl rfl) hS rfl ?_
                      refine WO.nil ?_
                      refine WX.thenC ?_
                      refine WC.condFb rfl (by simp) ?_
                      refine WC.skip ?_
                      refine WX.blockN ?_
                      refine WX.thenC ?_
                      refine WC.region ?_
                      refine WL.step (ok_move rfl) rfl ?_
                      refine WL.step (ok_add ((j + 1 : Nat) : Int) rfl rfl (by omega) (by omega) (by omega)) rfl ?_
                      refine WL.step (ok_assign rfl) rfl ?_
                      refine WL.nil ?_
                      exact WX.again (j + 1) (by repeat (first | exact trivial | refine ⟨rfl, ?_⟩)) ⟨by omega, ⟨rest.drop 1, hor59'.drew, by simp [hrest]; omega⟩, (hE8.over hkr59 (fun i hi e => by omega)).trans (Kp.drew _ _)⟩ (by omega)
                    ·
                      have hge8 : j = rs2.length := by have := of_decide_eq_false hc205; omega
                      have hRl8 : Rd w8 b201 0 (nc (lens (slots rs2))) := by rw [hge8, ← hlen2, List.take_length] at hOl; exact hOl.rd0.append_left
                      refine WC.exit ?_
                      refine WX.thenE ?_
                      refine WX.thenE ?_
                      refine WX.blockHit ?_
                      refine WX.thenC ?_
                      refine WC.seq ?_
                      refine WC.region ?_
                      refine WL.step (ok_move rfl) rfl ?_
                      refine WL.call (ok_callF rfl isfn23) rfl (runsBounded (lens (slots rs2)) (by rw [hlens]; exact Bd_insL hF1.inv.bd hrle) b201 0 _ (by omega) _ hRl8) ?_
                      rintro v w226 ⟨rfl, hE226⟩
                      refine WL.step (ok_assign rfl) rfl ?_
                      refine WL.nil ?_
                      refine WX.thenC ?_
                      refine WC.ret ?_
                      exact WX.ret1 rfl rfl ⟨_, rfl, rfl, (hEfin.trans hE8).trans hE226⟩

end Go.Proofs.Try
