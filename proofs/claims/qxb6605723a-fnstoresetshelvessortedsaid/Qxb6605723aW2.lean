/- Walks: clone, bounds, places, the new shelf. -/
import Derived.Test.Qxb6605723aW1
import Derived.Test.Qxb6605723aBld
set_option linter.unusedVariables false
set_option linter.unusedSimpArgs false
set_option maxRecDepth 100000
namespace Go.Proofs.Try
open Go.Sx Go.Pl

theorem cloneItems (l : List Itm) (ho : OkI l) (a : Option Addr) (cap : Nat) (hn : l.length ≤ 4096) (w : World) (hI : ItemsAt w a l) :
    CallsV Try.prog 29 #[.slice a l.length cap] w fun v w' => ∃ a' cap', v = .slice a' l.length cap' ∧ ItemsAt w' a' l ∧ (∀ b off, a' = some ⟨b, off, none⟩ → w.heap.size ≤ b) ∧ Ext w w' := by
  refine calls_intro (args := [_]) Try.func29 rfl Try.ntmps29 rfl ?_
  refine WC.seq ?_
  refine WC.region ?_
  refine WL.step (ok_assign rfl) rfl ?_
  refine WL.nil ?_
  refine WX.thenC ?_
  refine WC.seq ?_
  refine WC.seq ?_
  refine WC.region ?_
  refine WL.step (ok_move rfl) rfl ?_
  refine WL.step (ok_eqlNil rfl Try.underlying57) rfl ?_
  refine WL.nil ?_
  refine WX.thenC ?_
  refine WC.cond rfl (fun hc6 => ?_) (fun hc6 => ?_)
  ·
    have hl0 : a = none := by simpa using hc6
    have hnil : l = [] := Classical.byContradiction fun hne => by obtain ⟨b, off, h1, _⟩ := hI hne; rw [hl0] at h1; cases h1
    refine WC.seq ?_
    refine WC.region ?_
    refine WL.step (ok_assign rfl) rfl ?_
    refine WL.nil ?_
    refine WX.thenC ?_
    refine WC.ret ?_
    refine WX.thenR ?_
    exact WX.ret1 rfl rfl ⟨_, rfl, none, 0, by rw [hnil]; rfl, fun hne => absurd hnil hne, (by intro b off h; cases h), Kp.refl _ _⟩
  ·
    refine WC.skip ?_
    refine WX.thenC ?_
    refine WC.seq ?_
    refine WC.region ?_
    refine WL.step (ok_move rfl) rfl ?_
    refine WL.step (ok_lenSlice rfl Try.underlying57) rfl ?_
    refine WL.make (l.length) elt57 rfl (by omega) (by omega) rfl ?_
    intro b9 w9 c9 hb9 ho9 hl9 hz9 hk9 hs9
    refine WL.step (ok_assign rfl) rfl ?_
    refine WL.nil ?_
    refine WX.thenC ?_
    refine WC.seq ?_
    refine WC.seq ?_
    refine WC.region ?_
    refine WL.step (ok_assign rfl) rfl ?_
    refine WL.nil ?_
    refine WX.thenC ?_
    refine WC.block ?_
    refine WC.loop (fun k : Nat => [(0, .slice a l.length cap), (3, .slice (some ⟨b9, 0, none⟩) l.length l.length), (4, .int .i64 (k : Nat))])
      (fun k w' => k ≤ l.length ∧ Ext w w' ∧ ∃ rest, Own w' b9 64 (encI (l.take k) ++ rest) ∧ rest.length = (l.length - k) * 21) (fun k => l.length - k) 0 (by repeat (first | exact trivial | refine ⟨rfl, ?_⟩)) ?_ ?_
    · exact ⟨by omega, hk9, c9, by simpa [encI] using ho9, by simpa using hl9⟩
    rintro k w1 ⟨hkn, hE, rest, hO, hrest⟩
    refine WC.seq ?_
    refine WC.seq ?_
    refine WC.region ?_
    refine WL.step (ok_move rfl) rfl ?_
    refine WL.step (ok_move rfl) rfl ?_
    refine WL.step (ok_lenSlice rfl Try.underlying57) rfl ?_
    refine WL.step (ok_lss rfl rfl) rfl ?_
    refine WL.nil ?_
    refine WX.thenC ?_
    refine WC.cond rfl (fun hc13 => ?_) (fun hc13 => ?_)
    ·
      have hlt : k < l.length := by have := of_decide_eq_true hc13; omega
      obtain ⟨b, off, rfl, hr⟩ := (hI.ext hE).at hlt
      refine WC.skip ?_
      refine WX.thenC ?_
      refine WC.seq ?_
      refine WC.block ?_
      have hot : OkI (l.take k) := fun i hi => ho i (List.mem_of_mem_take hi)
      refine WC.drawE [14] 7 [(0, true), (1, true), (2, true), (3, true), (4, true), (5, true), (6, true), (7, true), (8, true), (9, true), (10, true), (11, true), (12, true), (13, true), (14, false)] mixed (by kernel_rfl) (fun hS => ?_)
      refine WO.quiet rfl (fun _ _ => ok_move rfl) hS rfl ?_
      refine WO.quiet rfl (fun _ _ => ok_move rfl) hS rfl ?_
      refine WO.quiet rfl (fun _ _ => ok_move rfl) hS rfl ?_
      refine WO.quiet rfl (fun _ _ => ok_move rfl) hS rfl ?_
      refine WO.quiet rfl (fun _ _ => ok_indexS _ rfl rfl rfl (by omega) Try.underlying57 sz64) hS rfl ?_
      refine WO.quiet rfl (fun _ _ => ok_field rfl fld64_0) hS rfl ?_
      refine WO.quiet rfl (fun _ hw => ok_loadN rfl agg29 sz29 (by simp [ho _ (List.getElem_mem hlt)]) (Rd.kp (rd_key hr ho k hlt) hw (fun f => f))) hS rfl ?_
      refine WO.quiet rfl (fun _ _ => ok_move rfl) hS rfl ?_
      refine WO.quiet rfl (fun _ _ => ok_move rfl) hS rfl ?_
      refine WO.quiet rfl (fun _ _ => ok_indexS _ rfl rfl rfl (by omega) Try.underlying57 sz64) hS rfl ?_
      refine WO.quiet rfl (fun _ _ => ok_field rfl fld64_1) hS rfl ?_
      refine WO.quiet rfl (fun _ hw => ok_load rfl one9 (Kp.cell hw (rd_name hr ho k hlt) (fun f => f))) hS rfl ?_
      refine WO.quiet rfl (fun _ _ => build64 (ho _ (List.getElem_mem hlt)) rfl rfl) hS rfl ?_
      refine WO.quiet rfl (fun _ _ => ok_indexS _ rfl rfl rfl (by omega) Try.underlying57 sz64) hS rfl ?_
      refine WO.store rfl rfl rfl sz64 (hO.drew) (by simp [Value.cells, ho _ (List.getElem_mem hlt)]) (by simp [Value.cells, ho _ (List.getElem_mem hlt), encI_length hot, hrest]; omega) (one_append (kc_one _) (one_cons rfl one_nil)) ?_
      intro wr7 hor7 hkr7 hsr7
      refine ⟨(inL rfl), ?_⟩
      have hnew : splice (encI (l.take k) ++ rest) (0 + k * 21) (Value.agg (kc l[k].key ++ [Value.string l[k].name]).toArray).cells.toList = encI (l.take (k + 1)) ++ rest.drop 21 := by
        rw [splice_mid _ _ _ _ (by rw [encI_length hot]; simp; omega)]
        simp only [encI, flatMap_take_succ _ _ k hlt]
        simp [Value.cells, Itm.cells, ho _ (List.getElem_mem hlt)]
      rw [hnew] at hor7
      refine WO.nil ?_
      refine WX.blockN ?_
      refine WX.thenC ?_
      refine WC.region ?_
      refine WL.step (ok_move rfl) rfl ?_
      refine WL.step (ok_add ((k + 1 : Nat) : Int) rfl rfl (by omega) (by omega) (by omega)) rfl ?_
      refine WL.step (ok_assign rfl) rfl ?_
      refine WL.nil ?_
      exact WX.again (k + 1) (by repeat (first | exact trivial | refine ⟨rfl, ?_⟩)) ⟨by omega, (hE.trans (Kp.drew _ _)).over hkr7 (fun i hi e => by omega), rest.drop 21, hor7, by rw [List.length_drop, hrest, Nat.sub_add_eq, Nat.sub_mul _ 1]⟩ (by omega)
    ·
      have hge : k = l.length := by have := of_decide_eq_false hc13; omega
      refine WC.exit ?_
      refine WX.thenE ?_
      refine WX.thenE ?_
      refine WX.blockHit ?_
      refine WX.thenC ?_
      refine WC.seq ?_
      refine WC.region ?_
      refine WL.step (ok_move rfl) rfl ?_
      refine WL.step (ok_assign rfl) rfl ?_
      refine WL.nil ?_
      refine WX.thenC ?_
      refine WC.ret ?_
      exact WX.ret1 rfl rfl ⟨_, rfl, some ⟨b9, 0, none⟩, l.length, rfl, fun _ => ⟨b9, 0, rfl, fun j v hv => by rw [hge, List.take_length] at hO; exact hO.rd0.append_left j v hv⟩, (by intro b off h; cases h; omega), hE⟩
theorem runsBounded (l : List Nat) (hB : Bd l) (b off cap : Nat) (hn : l.length ≤ 1048576) (w : World) (hr : Rd w b off (nc l)) :
    CallsV Try.prog 23 #[.slice (some ⟨b, off, none⟩) l.length cap] w fun v w' => v = .bool true ∧ Ext w w' := by
  refine calls_intro (args := [_]) Try.func23 rfl Try.ntmps23 rfl ?_
  refine WC.seq ?_
  refine WC.region ?_
  refine WL.step (ok_assign rfl) rfl ?_
  refine WL.nil ?_
  refine WX.thenC ?_
  refine WC.seq ?_
  refine WC.seq ?_
  refine WC.region ?_
  refine WL.step (ok_assign rfl) rfl ?_
  refine WL.nil ?_
  refine WX.thenC ?_
  refine WC.block ?_
  refine WC.loop (fun k : Nat => [(0, .slice (some ⟨b, off, none⟩) l.length cap), (3, .int .i64 (k : Nat))])
    (fun k w' => k ≤ l.length ∧ Ext w w') (fun k => l.length - k) 0 (by repeat (first | exact trivial | refine ⟨rfl, ?_⟩)) ?_ ?_
  · exact ⟨by omega, Kp.refl _ _⟩
  rintro k w1 ⟨hkn, hE⟩
  have hr1 := hr.kp hE (fun f => f)
  refine WC.seq ?_
  refine WC.seq ?_
  refine WC.region ?_
  refine WL.step (ok_move rfl) rfl ?_
  refine WL.step (ok_move rfl) rfl ?_
  refine WL.step (ok_lenSlice rfl Try.underlying43) rfl ?_
  refine WL.step (ok_lss rfl rfl) rfl ?_
  refine WL.nil ?_
  refine WX.thenC ?_
  refine WC.cond rfl (fun hc7 => ?_) (fun hc7 => ?_)
  ·
    have hlt : k < l.length := by have := of_decide_eq_true hc7; omega
    have hBk := hB k hlt
    refine WC.skip ?_
    refine WX.thenC ?_
    refine WC.seq ?_
    refine WC.block ?_
    refine WC.seq ?_
    refine WC.seq ?_
    refine WC.region ?_
    refine WL.step (ok_move rfl) rfl ?_
    refine WL.step (ok_move rfl) rfl ?_
    refine WL.step (ok_indexS _ rfl rfl rfl (by omega) Try.underlying43 sz3) rfl ?_
    refine WL.step (ok_load rfl one3 (rd_nat hr1 k hlt)) rfl ?_
    refine WL.step (ok_lss rfl rfl) rfl ?_
    refine WL.step (ok_move rfl) rfl ?_
    refine WL.rew 15 (.bool false) rfl (congrArg Value.bool (decide_eq_false (by have := (hB k hlt).1; omega))) ?_
    refine WL.on rfl rfl ?_
    refine WL.step (ok_move rfl) rfl ?_
    refine WL.on rfl rfl ?_
    refine WL.step (ok_move rfl) rfl ?_
    refine WL.on rfl rfl ?_
    refine WL.step (ok_indexS _ rfl rfl rfl (by omega) Try.underlying43 sz3) rfl ?_
    refine WL.on rfl rfl ?_
    refine WL.step (ok_load rfl one3 (rd_nat hr1 k hlt)) rfl ?_
    refine WL.on rfl rfl ?_
    refine WL.step (ok_gtr rfl rfl) rfl ?_
    refine WL.step (ok_pickF rfl rfl) rfl ?_
    refine WL.nil ?_
    refine WX.thenC ?_
    refine WC.condFb rfl (decide_eq_false (by omega)) ?_
    refine WC.skip ?_
    refine WX.thenC ?_
    refine WC.seq ?_
    refine WC.drawE [] 10 [(0, true), (1, true), (2, true), (3, true), (4, true), (5, true), (6, true), (7, true), (8, true), (9, true), (10, true), (11, true), (12, true), (13, true), (14, true)] mixed (by kernel_rfl) (fun hS => ?_)
    refine WO.quiet rfl (fun _ _ => ok_move rfl) hS rfl ?_
    refine WO.quiet rfl (fun _ _ => ok_gtr rfl rfl) hS rfl ?_
    refine WO.quiet rfl (fun _ _ => ok_move rfl) hS rfl ?_
    refine WO.splitB 24 rfl (fun hb24 => ?_) (fun hb24 => ?_)
    ·
      have hk0 := of_decide_eq_true hb24
      have hBp := hB (k - 1) (by omega)
      refine WO.quietOn rfl rfl rfl (fun _ _ => ok_move rfl) hS rfl ?_
      refine WO.quietOn rfl rfl rfl (fun _ _ => ok_move rfl) hS rfl ?_
      refine WO.quietOn rfl rfl rfl (fun _ _ => ok_sub ((k - 1 : Nat) : Int) rfl rfl (by omega) (by omega) (by omega)) hS rfl ?_
      refine WO.quietOn rfl rfl rfl (fun _ _ => ok_indexS (k - 1) rfl rfl rfl (by omega) Try.underlying43 sz3) hS rfl ?_
      refine WO.quietOn rfl rfl rfl (fun _ hw => ok_load rfl one3 (Kp.cell hw (rd_nat hr1 (k - 1) (by omega)) (fun f => f))) hS rfl ?_
      refine WO.quietOn rfl rfl rfl (fun _ _ => ok_move rfl) hS rfl ?_
      refine WO.quietOn rfl rfl rfl (fun _ _ => ok_move rfl) hS rfl ?_
      refine WO.quietOn rfl rfl rfl (fun _ _ => ok_indexS _ rfl rfl rfl (by omega) Try.underlying43 sz3) hS rfl ?_
      refine WO.quietOn rfl rfl rfl (fun _ hw => ok_load rfl one3 (Kp.cell hw (rd_nat hr1 k hlt) (fun f => f))) hS rfl ?_
      refine WO.quietOn rfl rfl rfl (fun _ _ => ok_add _ rfl rfl rfl (by omega) (by omega)) hS rfl ?_
      refine WO.quietOn rfl rfl rfl (fun _ _ => ok_leq rfl rfl) hS rfl ?_
      refine WO.quiet rfl (fun _ _ => ok_pickT rfl rfl) hS rfl ?_
      refine WO.nil ?_
      refine WX.thenC ?_
      refine WC.condFb rfl (by first | rfl | exact decide_eq_false (by have := hBk.2.2 (by omega); omega)) ?_
      refine WC.skip ?_
      refine WX.blockN ?_
      refine WX.thenC ?_
      refine WC.region ?_
      refine WL.step (ok_move rfl) rfl ?_
      refine WL.step (ok_add ((k + 1 : Nat) : Int) rfl rfl (by omega) (by omega) (by omega)) rfl ?_
      refine WL.step (ok_assign rfl) rfl ?_
      refine WL.nil ?_
      exact WX.again (k + 1) (by repeat (first | exact trivial | refine ⟨rfl, ?_⟩)) ⟨by omega, hE.trans (Kp.drew _ _)⟩ (by omega)
    ·
      refine WO.off rfl rfl rfl rfl hS rfl ?_
      refine WO.off rfl rfl rfl rfl hS rfl ?_
      refine WO.off rfl rfl rfl rfl hS rfl ?_
      refine WO.off rfl rfl rfl rfl hS rfl ?_
      refine WO.off rfl rfl rfl rfl hS rfl ?_
      refine WO.off rfl rfl rfl rfl hS rfl ?_
      refine WO.off rfl rfl rfl rfl hS rfl ?_
      refine WO.off rfl rfl rfl rfl hS rfl ?_
      refine WO.off rfl rfl rfl rfl hS rfl ?_
      refine WO.off rfl rfl rfl rfl hS rfl ?_
      refine WO.off rfl rfl rfl rfl hS rfl ?_
      refine WO.quiet rfl (fun _ _ => ok_pickF rfl rfl) hS rfl ?_
      refine WO.nil ?_
      refine WX.thenC ?_
      refine WC.condFb rfl (by first | rfl | exact decide_eq_false (by have := hBk.2.2 (by omega); omega)) ?_
      refine WC.skip ?_
      refine WX.blockN ?_
      refine WX.thenC ?_
      refine WC.region ?_
      refine WL.step (ok_move rfl) rfl ?_
      refine WL.step (ok_add ((k + 1 : Nat) : Int) rfl rfl (by omega) (by omega) (by omega)) rfl ?_
      refine WL.step (ok_assign rfl) rfl ?_
      refine WL.nil ?_
      exact WX.again (k + 1) (by repeat (first | exact trivial | refine ⟨rfl, ?_⟩)) ⟨by omega, hE.trans (Kp.drew _ _)⟩ (by omega)
  ·
    refine WC.exit ?_
    refine WX.thenE ?_
    refine WX.thenE ?_
    refine WX.blockHit ?_
    refine WX.thenC ?_
    refine WC.seq ?_
    refine WC.region ?_
    refine WL.step (ok_assign rfl) rfl ?_
    refine WL.nil ?_
    refine WX.thenC ?_
    refine WC.ret ?_
    exact WX.ret1 rfl rfl ⟨_, rfl, rfl, hE⟩
theorem placeOfW (l : List Nat) (c b off cap : Nat) (hn : l.length ≤ 1048576) (hs : sumL l ≤ 1048576) (hc : c ≤ 1048576) (w : World) (hr : Rd w b off (nc l)) :
    CallsV Try.prog 33 #[.slice (some ⟨b, off, none⟩) l.length cap, .int .i64 (c : Nat)] w fun v w' => v = .tuple #[.int .i64 ((placeOf l c).1 : Nat), .int .i64 ((placeOf l c).2 : Nat)] ∧ Ext w w' := by
  refine calls_intro (args := [_, _]) Try.func33 rfl Try.ntmps33 rfl ?_
  refine WC.seq ?_
  refine WC.region ?_
  refine WL.step (ok_assign rfl) rfl ?_
  refine WL.step (ok_assign rfl) rfl ?_
  refine WL.nil ?_
  refine WX.thenC ?_
  refine WC.seq ?_
  refine WC.region ?_
  refine WL.step (ok_assign rfl) rfl ?_
  refine WL.nil ?_
  refine WX.thenC ?_
  refine WC.seq ?_
  refine WC.seq ?_
  refine WC.region ?_
  refine WL.step (ok_assign rfl) rfl ?_
  refine WL.nil ?_
  refine WX.thenC ?_
  refine WC.block ?_
  refine WC.loop (fun k : Nat => [(0, .slice (some ⟨b, off, none⟩) l.length cap), (1, .int .i64 (c : Nat)), (6, .int .i64 (sumL (l.take k) : Nat)), (7, .int .i64 (k : Nat))])
    (fun k w' => k ≤ l.length ∧ Ext w w' ∧ sumL (l.take k) ≤ c ∧ placeOf l c = ((placeOf (l.drop k) (c - sumL (l.take k))).1 + k, (placeOf (l.drop k) (c - sumL (l.take k))).2)) (fun k => l.length - k) 0 (by repeat (first | exact trivial | refine ⟨rfl, ?_⟩)) ?_ ?_
  · exact ⟨by omega, Kp.refl _ _, Nat.zero_le _, rfl⟩
  rintro k w1 ⟨hkn, hE, hle, hp⟩
  have hr1 := hr.kp hE (fun f => f)
  refine WC.seq ?_
  refine WC.seq ?_
  refine WC.region ?_
  refine WL.step (ok_move rfl) rfl ?_
  refine WL.step (ok_move rfl) rfl ?_
  refine WL.step (ok_lenSlice rfl Try.underlying43) rfl ?_
  refine WL.step (ok_lss rfl rfl) rfl ?_
  refine WL.nil ?_
  refine WX.thenC ?_
  refine WC.cond rfl (fun hc11 => ?_) (fun hc11 => ?_)
  ·
    have hlt : k < l.length := by have := of_decide_eq_true hc11; omega
    have hsk := sumL_take_succ l k hlt
    have hs2 := sumL_take_le l (k + 1)
    have hpd := placeOf_drop l c k _ hlt hp hle
    refine WC.skip ?_
    refine WX.thenC ?_
    refine WC.seq ?_
    refine WC.block ?_
    refine WC.seq ?_
    refine WC.seq ?_
    refine WC.region ?_
    refine WL.step (ok_move rfl) rfl ?_
    refine WL.step (ok_move rfl) rfl ?_
    refine WL.step (ok_move rfl) rfl ?_
    refine WL.step (ok_move rfl) rfl ?_
    refine WL.step (ok_indexS _ rfl rfl rfl (by omega) Try.underlying43 sz3) rfl ?_
    refine WL.step (ok_load rfl one3 (rd_nat hr1 k hlt)) rfl ?_
    refine WL.step (ok_add ((sumL (l.take k) + l[k] : Nat) : Int) rfl rfl (by omega) (by omega) (by omega)) rfl ?_
    refine WL.step (ok_lss rfl rfl) rfl ?_
    refine WL.nil ?_
    refine WX.thenC ?_
    refine WC.cond rfl (fun hc21 => ?_) (fun hc21 => ?_)
    ·
      have hcl : c < sumL (l.take k) + l[k] := by have := of_decide_eq_true hc21; omega
      refine WC.seq ?_
      refine WC.region ?_
      refine WL.step (ok_move rfl) rfl ?_
      refine WL.step (ok_move rfl) rfl ?_
      refine WL.step (ok_move rfl) rfl ?_
      refine WL.step (ok_sub ((c - sumL (l.take k) : Nat) : Int) rfl rfl (by omega) (by omega) (by omega)) rfl ?_
      refine WL.step (ok_assign rfl) rfl ?_
      refine WL.step (ok_assign rfl) rfl ?_
      refine WL.nil ?_
      refine WX.thenC ?_
      refine WC.ret ?_
      refine WX.thenR ?_
      refine WX.blockR ?_
      refine WX.thenR ?_
      refine WX.thenR ?_
      refine WX.blockR ?_
      refine WX.thenR ?_
      exact WX.ret2 rfl rfl rfl ⟨_, rfl, by rw [hpd.1 hcl], hE⟩
    ·
      have hcl : ¬ c < sumL (l.take k) + l[k] := by have := of_decide_eq_false hc21; omega
      refine WC.skip ?_
      refine WX.thenC ?_
      refine WC.region ?_
      refine WL.step (ok_move rfl) rfl ?_
      refine WL.step (ok_move rfl) rfl ?_
      refine WL.step (ok_move rfl) rfl ?_
      refine WL.step (ok_indexS _ rfl rfl rfl (by omega) Try.underlying43 sz3) rfl ?_
      refine WL.step (ok_load rfl one3 (rd_nat hr1 k hlt)) rfl ?_
      refine WL.step (ok_add ((sumL (l.take (k + 1)) : Nat) : Int) rfl rfl (by omega) (by omega) (by omega)) rfl ?_
      refine WL.step (ok_assign rfl) rfl ?_
      refine WL.nil ?_
      refine WX.blockN ?_
      refine WX.thenC ?_
      refine WC.region ?_
      refine WL.step (ok_move rfl) rfl ?_
      refine WL.step (ok_add ((k + 1 : Nat) : Int) rfl rfl (by omega) (by omega) (by omega)) rfl ?_
      refine WL.step (ok_assign rfl) rfl ?_
      refine WL.nil ?_
      exact WX.again (k + 1) (by repeat (first | exact trivial | refine ⟨rfl, ?_⟩)) ⟨by omega, hE, by omega, by rw [hsk]; exact hpd.2 (by omega)⟩ (by omega)
  ·
    have hge : k = l.length := by have := of_decide_eq_false hc11; omega
    refine WC.exit ?_
    refine WX.thenE ?_
    refine WX.thenE ?_
    refine WX.blockHit ?_
    refine WX.thenC ?_
    refine WC.seq ?_
    refine WC.region ?_
    refine WL.step (ok_move rfl) rfl ?_
    refine WL.step (ok_lenSlice rfl Try.underlying43) rfl ?_
    refine WL.step (ok_assign rfl) rfl ?_
    refine WL.step (ok_assign rfl) rfl ?_
    refine WL.nil ?_
    refine WX.thenC ?_
    refine WC.ret ?_
    exact WX.ret2 rfl rfl rfl ⟨_, rfl, by rw [hp, hge, List.drop_length]; simp [placeOf], hE⟩
theorem newShelf (w : World) :
    CallsV Try.prog 30 #[] w fun v w' => ∃ b, v = .pointer (some ⟨b, 0, none⟩) ∧ b = w.heap.size ∧ Own w' b 80 [.slice none 0 0] ∧ Ext w w' := by
  refine calls_intro (args := []) Try.func30 rfl Try.ntmps30 rfl ?_
  refine WC.seq ?_
  refine WC.region ?_
  refine WL.step (ok_assign rfl) rfl ?_
  refine WL.nil ?_
  refine WX.thenC ?_
  refine WC.seq ?_
  refine WC.region ?_
  refine WL.step (build80) rfl ?_
  refine WL.box (c := [.slice none 0 0]) rfl rfl rfl ?_
  intro b2 w2 hb2 ho2 hk2 hs2
  refine WL.step (ok_assign rfl) rfl ?_
  refine WL.nil ?_
  refine WX.thenC ?_
  refine WC.ret ?_
  exact WX.ret1 rfl rfl ⟨_, rfl, _, rfl, hb2, ho2, hk2⟩

end Go.Proofs.Try
