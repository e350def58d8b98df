/- Walk: the law of the store's sorted shelves. -/
import Derived.Test.Qxb6605723aW15
set_option linter.unusedVariables false
set_option linter.unusedSimpArgs false
set_option maxRecDepth 100000
namespace Go.Sx
open Go.Pl
def toI (o : OpR) : Itm := ⟨o.key, o.name⟩
theorem pa_toI (l : List OpR) (x : Nat) (h : x < l.length) : pa (l.map toI) x = pk (toI l[x]) := by rw [pa_eq _ _ (by simpa using h)]; simp
/-- The last sets of one kind. -/
def dedC : List OpR → Bool → List Pr
  | [], _ => []
  | x :: t, c => if pn x ∈ t.map pn then dedC t c else if x.copy = c then pk (toI x) :: dedC t c else dedC t c
theorem dedC_drop (l : List OpR) (k : Nat) (hk : k < l.length) (c : Bool) : dedC (l.drop k) c = if laterName l k then dedC (l.drop (k + 1)) c else if l[k].copy = c then pk (toI l[k]) :: dedC (l.drop (k + 1)) c else dedC (l.drop (k + 1)) c := by
  rw [laterName_iff l k hk, List.drop_eq_getElem_cons hk, dedC]
  simp
theorem dedC_names : ∀ (l : List OpR) (c : Bool) (p : Pr), p ∈ dedC l c → (([] : List UInt8), p.2) ∈ l.map pn
  | [], c, p, h => by simp [dedC] at h
  | x :: t, c, p, h => by
    unfold dedC at h
    split at h
    · exact List.mem_cons_of_mem _ (dedC_names t c p h)
    · split at h
      · rcases List.mem_cons.1 h with rfl | h
        · exact List.mem_cons_self
        · exact List.mem_cons_of_mem _ (dedC_names t c p h)
      · exact List.mem_cons_of_mem _ (dedC_names t c p h)
theorem dedC_nodup : ∀ (l : List OpR) (c : Bool), (dedC l c).Nodup
  | [], c => by simp [dedC]
  | x :: t, c => by
    unfold dedC
    split
    · exact dedC_nodup t c
    · rename_i hx
      split
      · exact List.nodup_cons.2 ⟨fun h => hx (dedC_names t c _ h), dedC_nodup t c⟩
      · exact dedC_nodup t c
theorem foldl_or (n : ByteArray) : ∀ (l : List OpR) (acc : Option OpR), l.foldl (fun acc o => if o.name = n then some o else acc) acc = match lastOp l n with | some o => some o | none => acc
  | [], acc => rfl
  | x :: l, acc => by
    have h1 := foldl_or n l (if x.name = n then some x else acc)
    have h2 := foldl_or n l (if x.name = n then some x else none)
    rw [List.foldl_cons, h1]
    have h3 : lastOp (x :: l) n = match lastOp l n with | some o => some o | none => (if x.name = n then some x else none) := h2
    rw [h3]
    cases lastOp l n with
    | some o => rfl
    | none => simp only; split <;> rfl
theorem lastOp_cons (x : OpR) (l : List OpR) (n : ByteArray) : lastOp (x :: l) n = match lastOp l n with | some o => some o | none => (if x.name = n then some x else none) := foldl_or n l _
theorem mem_dedC : ∀ (l : List OpR) (c : Bool) (p : Pr), p ∈ dedC l c ↔ ∃ o, lastOp l o.name = some o ∧ o.copy = c ∧ p = pk (toI o)
  | [], c, p => by simp [dedC, lastOp]
  | x :: t, c, p => by
    have ih := mem_dedC t c p
    have hmem : ∀ n : ByteArray, (∃ o ∈ t, o.name = n) ↔ (([] : List UInt8), n.toList) ∈ t.map pn := by
      intro n
      rw [List.mem_map]
      constructor
      · rintro ⟨o, ho, rfl⟩; exact ⟨o, ho, rfl⟩
      · rintro ⟨o, ho, e⟩
        simp only [pn, Prod.mk.injEq, true_and] at e
        exact ⟨o, ho, ba_toList e⟩
    unfold dedC
    split
    · rename_i hx
      obtain ⟨o1, ho1⟩ := lastOp_some ((hmem x.name).2 hx)
      have hall : ∀ n, lastOp (x :: t) n = lastOp t n := by
        intro n
        rw [lastOp_cons]
        cases hq : lastOp t n with
        | some o => rfl
        | none =>
          simp only
          rw [if_neg]
          intro e
          rw [← e, ho1] at hq
          cases hq
      rw [ih]
      simp only [hall]
    · rename_i hx
      have hnone : lastOp t x.name = none := by
        cases hq : lastOp t x.name with
        | none => rfl
        | some o => exact absurd ((hmem x.name).1 ⟨o, (lastOp_name hq).2, (lastOp_name hq).1⟩) hx
      have hxx : lastOp (x :: t) x.name = some x := by rw [lastOp_cons, hnone]; simp
      have hne : ∀ n, n ≠ x.name → lastOp (x :: t) n = lastOp t n := by
        intro n hn
        rw [lastOp_cons]
        cases lastOp t n with
        | some o => rfl
        | none => simp only; rw [if_neg (fun e => hn e.symm)]
      have key : (∃ o, lastOp (x :: t) o.name = some o ∧ o.copy = c ∧ p = pk (toI o)) ↔ (x.copy = c ∧ p = pk (toI x)) ∨ ∃ o, lastOp t o.name = some o ∧ o.copy = c ∧ p = pk (toI o) := by
        constructor
        · rintro ⟨o, h1, h2, h3⟩
          by_cases hn : o.name = x.name
          · rw [hn, hxx] at h1
            cases h1
            exact .inl ⟨h2, h3⟩
          · rw [hne _ hn] at h1
            exact .inr ⟨o, h1, h2, h3⟩
        · rintro (⟨h2, h3⟩ | ⟨o, h1, h2, h3⟩)
          · exact ⟨x, hxx, h2, h3⟩
          · have hn : o.name ≠ x.name := fun e => by rw [e, hnone] at h1; cases h1
            exact ⟨o, by rw [hne _ hn]; exact h1, h2, h3⟩
      rw [key]
      split
      · rename_i hc
        rw [List.mem_cons, ih]
        simp [hc]
      · rename_i hc
        rw [ih]
        simp [hc]
theorem shelf_perm {l : List OpR} {nm : Nm} {Sh : Shs} (h : SInv nm Sh) (hc : Cont l nm Sh) (c : Bool) : (prs (Sh c)).Perm (dedC l c) := by
  refine (List.perm_ext_iff_of_nodup (srt_nodup (h.inv c).srt (h.inv c).key) (dedC_nodup l c)).2 fun p => ?_
  rw [h.mem, mem_dedC]
  constructor
  · rintro ⟨n, h1, h2⟩
    rw [hc.get] at h2
    cases hq : lastOp l n with
    | none => rw [hq] at h2; cases h2
    | some o =>
      rw [hq] at h2
      simp only [Option.map_some, Option.some.injEq, Prod.mk.injEq] at h2
      have hn := (lastOp_name hq).1
      exact ⟨o, by rw [hn]; exact hq, h2.2, Prod.ext h2.1.symm (by rw [← h1, ← hn]; rfl)⟩
  · rintro ⟨o, h1, h2, rfl⟩
    exact ⟨o.name, rfl, by rw [hc.get, h1]; simp [toI, pk, h2]⟩
/-- An index of a last set of the kind. -/
def Lst (l : List OpR) (c : Bool) (x : Nat) : Prop := ∃ h : x < l.length, laterName l x = false ∧ l[x].copy = c
theorem pa_ok {l : List OpR} (ho : OkO l) : OkI (l.map toI) := by
  intro i hi
  obtain ⟨o, h, rfl⟩ := List.mem_map.1 hi
  exact ho o h
theorem rd_okey {w : World} {b off : Nat} {o : OpR} (h : Rd w b off o.cells) : Rd w b (off + 0) (kc o.key) := h.append_left
theorem rd_oat {w : World} {b off : Nat} {o : OpR} (h : Rd w b off o.cells) (hs : o.key.length = 20) (j : Nat) (v : Value) (hv : [Value.string o.name, .slice o.va o.vl.length o.vcap, .bool o.copy][j]? = some v) : w.cell? ⟨b, off + (20 + j), none⟩ = some v := by
  refine h.cell (20 + j) v ?_
  have hl : (kc o.key).length = 20 := by simp [hs]
  simp only [OpR.cells]
  rw [List.getElem?_append_right (by omega), hl, Nat.add_sub_cancel_left]
  exact hv
theorem rd_oname {w : World} {b off : Nat} {o : OpR} (h : Rd w b off o.cells) (hs : o.key.length = 20) : w.cell? ⟨b, off + 20, none⟩ = some (.string o.name) := rd_oat h hs 0 _ rfl
theorem rd_oval {w : World} {b off : Nat} {o : OpR} (h : Rd w b off o.cells) (hs : o.key.length = 20) : w.cell? ⟨b, off + 21, none⟩ = some (.slice o.va o.vl.length o.vcap) := rd_oat h hs 1 _ rfl
theorem op_one {o : OpR} : ∀ u ∈ o.cells, u.oneCell' = true := one_append (kc_one _) (one_cons rfl (one_cons rfl (one_cons rfl one_nil)))
end Go.Sx
namespace Go.Proofs.Try
open Go.Sx Go.Pl

set_option maxHeartbeats 2000000 in
theorem lawSorted (l0 : List OpR) (ho0 : OkO l0) (a : Option Addr) (cap : Nat) (w : World) (hI : OpsAt w a l0) :
    CallsV Try.prog 4 #[.slice a l0.length cap] w fun v w' => v = .bool true ∧ Ext w w' := by
  refine calls_intro (args := [_]) Try.func4 rfl Try.ntmps4 rfl ?_
  refine WC.seq ?_
  refine WC.region ?_
  refine WL.step (ok_assign rfl) rfl ?_
  refine WL.nil ?_
  refine WX.thenC ?_
  refine WC.seq ?_
  refine WC.seq ?_
  refine WC.region ?_
  refine WL.step (ok_move rfl) rfl ?_
  refine WL.call (ok_callF rfl isfn19) rfl (bytesSorted l0 ho0 a cap _ hI) ?_
  rintro v w18 ⟨⟨z18, rfl, hz18⟩, hw18⟩
  have hw18 := hw18.symm
  subst hw18
  refine WL.step (ok_not rfl) rfl ?_
  refine WL.nil ?_
  refine WX.thenC ?_
  refine WC.cond rfl (fun hc24 => ?_) (fun hc24 => ?_)
  ·
    refine WC.seq ?_
    refine WC.region ?_
    refine WL.step (ok_assign rfl) rfl ?_
    refine WL.nil ?_
    refine WX.thenC ?_
    refine WC.ret ?_
    refine WX.thenR ?_
    exact WX.ret1 rfl rfl ⟨_, rfl, rfl, Kp.refl _ _⟩
  ·
    have hsm0 := hz18 (by simpa using hc24)
    refine WC.skip ?_
    refine WX.thenC ?_
    refine WC.seq ?_
    refine WC.seq ?_
    refine WC.region ?_
    refine WL.step (ok_move rfl) rfl ?_
    refine WL.step (ok_lenSlice rfl Try.underlying22) rfl ?_
    refine WL.step (ok_gtr rfl rfl) rfl ?_
    refine WL.nil ?_
    refine WX.thenC ?_
    refine WC.cond rfl (fun hc27 => ?_) (fun hc27 => ?_)
    ·
      refine WC.seq ?_
      refine WC.region ?_
      refine WL.step (ok_assign rfl) rfl ?_
      refine WL.nil ?_
      refine WX.thenC ?_
      refine WC.ret ?_
      refine WX.thenR ?_
      exact WX.ret1 rfl rfl ⟨_, rfl, rfl, Kp.refl _ _⟩
    ·
      have hn4 : l0.length ≤ 4096 := by have := of_decide_eq_false hc27; omega
      refine WC.skip ?_
      refine WX.thenC ?_
      refine WC.seq ?_
      refine WC.seq ?_
      refine WC.region ?_
      refine WL.step (ok_move rfl) rfl ?_
      refine WL.call (ok_callF rfl isfn10) rfl (setsBytes l0 ho0 a cap (by omega) _ hI) ?_
      rintro v w29 ⟨⟨z29, rfl⟩, hE29⟩
      refine WL.step (ok_gtr rfl rfl) rfl ?_
      refine WL.nil ?_
      refine WX.thenC ?_
      refine WC.cond rfl (fun hc30 => ?_) (fun hc30 => ?_)
      ·
        refine WC.seq ?_
        refine WC.region ?_
        refine WL.step (ok_assign rfl) rfl ?_
        refine WL.nil ?_
        refine WX.thenC ?_
        refine WC.ret ?_
        refine WX.thenR ?_
        exact WX.ret1 rfl rfl ⟨_, rfl, rfl, hE29⟩
      ·
        refine WC.skip ?_
        refine WX.thenC ?_
        refine WC.seq ?_
        refine WC.region ?_
        refine WL.step (ok_move rfl) rfl ?_
        refine WL.call (ok_callF rfl isfn11) rfl (cloneSets l0 ho0 a cap hn4 hsm0 _ (hI.ext hE29)) ?_
        rintro v w35 ⟨a', cap', l, rfl, hll, hsame, hI35, hE35⟩
        have hEw := hE29.trans hE35
        have ho : OkO l := by
          intro o hm
          obtain ⟨i, hi, rfl⟩ := List.mem_iff_getElem.1 hm
          rw [← (hsame i (by omega) hi).1]
          exact ho0 _ (List.getElem_mem _)
        have hsm : ∀ o ∈ l, SmallO o := by
          intro o hm
          obtain ⟨i, hi, rfl⟩ := List.mem_iff_getElem.1 hm
          have hq := hsame i (by omega) hi
          have hp := hsm0 _ (List.getElem_mem (show i < l0.length by omega))
          exact ⟨by rw [← hq.2.1]; exact hp.1, by rw [← hq.2.2.1]; exact hp.2⟩
        rw [← hll] at hn4
        obtain ⟨lo, hlo⟩ : ∃ lo, lo = w35.heap.size := ⟨_, rfl⟩
        have hT := hI35.low ho
        rw [← hlo] at hT
        have hwlo : w.heap.size ≤ lo := by rw [hlo]; exact hEw.size
        refine WL.rew 32 (.slice a' l.length cap') rfl (by rw [hll]) ?_
        refine WL.step (ok_assign rfl) rfl ?_
        refine WL.nil ?_
        refine WX.thenC ?_
        refine WC.seq ?_
        refine WC.region ?_
        refine WL.call (ok_callF rfl isfn12) rfl (newStore _) ?_
        rintro v w36 ⟨stb, rfl, hstb, hS36, hE36⟩
        have hS0 : StoreAt (fun k => k < lo) w36 stb [] (fun _ => []) := by rw [hlo]; exact hS36
        have hT36 : OpL lo w36 a' l := hT.kp (Kp.of_ext hE36)
        have hA36 : ∀ b, b < lo → b < w36.heap.size := fun b hb => by have := hE36.size; omega
        refine WL.step (ok_assign rfl) rfl ?_
        refine WL.nil ?_
        refine WX.thenC ?_
        refine WC.seq ?_
        refine WC.seq ?_
        refine WC.region ?_
        refine WL.step (ok_assign rfl) rfl ?_
        refine WL.nil ?_
        refine WX.thenC ?_
        refine WC.block ?_
        refine WC.loop (fun j : Nat => [(0, .slice a' l.length cap'), (3, .pointer (some ⟨stb, 0, none⟩)), (4, .int .i64 (j : Nat))])
          (fun j w' => j ≤ l.length ∧ ∃ nm Sh, StoreAt (fun k => k < lo) w' stb nm Sh ∧ SInv nm Sh ∧ Cont (l.take j) nm Sh ∧ (∀ b, (Sh b).flatten.length ≤ j) ∧ Kp (fun x => ¬ x < lo) w36 w') (fun j => l.length - j) 0 (by repeat (first | exact trivial | refine ⟨rfl, ?_⟩)) ?_ ?_
        · exact ⟨by omega, [], fun _ => [], hS0, SInv.nil, by simpa using Cont.nil, fun b => by simp, Kp.refl _ _⟩
        rintro j w2 ⟨hjn, nm, Sh, hSt, hIv, hC, hFl, hK⟩
        have hTb := hT36.kp hK
        have hE0 : Ext w w2 := (hEw.trans hE36).over hK (fun i hi e => by omega)
        refine WC.seq ?_
        refine WC.seq ?_
        refine WC.region ?_
        refine WL.step (ok_move rfl) rfl ?_
        refine WL.step (ok_move rfl) rfl ?_
        refine WL.step (ok_lenSlice rfl Try.underlying22) rfl ?_
        refine WL.step (ok_lss rfl rfl) rfl ?_
        refine WL.nil ?_
        refine WX.thenC ?_
        refine WC.cond rfl (fun hc37 => ?_) (fun hc37 => ?_)
        ·
          have hlt : j < l.length := by have := of_decide_eq_true hc37; omega
          obtain ⟨b, off, rfl, hr⟩ := hTb.at.at hlt
          refine WC.skip ?_
          refine WX.thenC ?_
          refine WC.seq ?_
          refine WC.block ?_
          refine WC.drawE [22] 6 [(0, true), (1, true), (2, true), (3, true), (4, true), (5, true), (6, true), (7, true), (8, true), (9, true), (10, true), (11, true), (12, true), (13, true), (14, true), (15, true), (16, true), (17, true), (18, true), (19, true), (20, true), (21, true), (22, false)] mixed (by kernel_rfl) (fun hS => ?_)
          refine WO.quiet rfl (fun _ _ => ok_move rfl) hS rfl ?_
          refine WO.quiet rfl (fun _ _ => ok_move rfl) hS rfl ?_
          refine WO.quiet rfl (fun _ _ => ok_move rfl) hS rfl ?_
          refine WO.quiet rfl (fun _ _ => ok_indexS _ rfl rfl rfl (by omega) Try.underlying22 sz32) hS rfl ?_
          refine WO.quiet rfl (fun _ _ => ok_field rfl fld32_0) hS rfl ?_
          refine WO.quiet rfl (fun _ hw => ok_loadN rfl agg29 sz29 (by simp [ho _ (List.getElem_mem hlt)]) (Rd.kp (ro_key hr ho j hlt) hw (fun f => f))) hS rfl ?_
          refine WO.quiet rfl (fun _ _ => ok_move rfl) hS rfl ?_
          refine WO.quiet rfl (fun _ _ => ok_move rfl) hS rfl ?_
          refine WO.quiet rfl (fun _ _ => ok_indexS _ rfl rfl rfl (by omega) Try.underlying22 sz32) hS rfl ?_
          refine WO.quiet rfl (fun _ _ => ok_field rfl fld32_1) hS rfl ?_
          refine WO.quiet rfl (fun _ hw => ok_load rfl one9 (Kp.cell hw (ro_name hr ho j hlt) (fun f => f))) hS rfl ?_
          refine WO.quiet rfl (fun _ _ => ok_move rfl) hS rfl ?_
          refine WO.quiet rfl (fun _ _ => ok_move rfl) hS rfl ?_
          refine WO.quiet rfl (fun _ _ => ok_indexS _ rfl rfl rfl (by omega) Try.underlying22 sz32) hS rfl ?_
          refine WO.quiet rfl (fun _ _ => ok_field rfl fld32_2) hS rfl ?_
          refine WO.quiet rfl (fun _ hw => ok_load rfl one30 (Kp.cell hw (ro_val hr ho j hlt) (fun f => f))) hS rfl ?_
          refine WO.quiet rfl (fun _ _ => build35v (ho _ (List.getElem_mem hlt)) rfl rfl rfl) hS rfl ?_
          refine WO.quiet rfl (fun _ _ => ok_move rfl) hS rfl ?_
          refine WO.quiet rfl (fun _ _ => ok_move rfl) hS rfl ?_
          refine WO.quiet rfl (fun _ _ => ok_indexS _ rfl rfl rfl (by omega) Try.underlying22 sz32) hS rfl ?_
          refine WO.quiet rfl (fun _ _ => ok_field rfl fld32_3) hS rfl ?_
          refine WO.quiet rfl (fun _ hw => ok_load rfl one4 (Kp.cell hw (ro_copy hr ho j hlt) (fun f => f))) hS rfl ?_
          refine WO.loudCall rfl (ok_callF rfl isfn13) rfl (storeSet l[j].key l[j].name l[j].vl l[j].va l[j].vcap l[j].copy (ho _ (List.getElem_mem hlt)) (hsm _ (List.getElem_mem hlt)).1 (hsm _ (List.getElem_mem hlt)).2 _ ((hTb.val _ (List.getElem_mem hlt)).at.ext (Kp.drew _ _)) (low_of (hTb.val _ (List.getElem_mem hlt))) (hSt.ext (Kp.drew _ _)) (fun b hb => Nat.lt_of_lt_of_le (hA36 b hb) hK.size) hIv (fun b => Nat.le_trans (hFl b) (by omega))) ?_
          rintro v w65 ⟨rfl, hS65, hK65⟩
          refine ⟨(inL rfl), ?_⟩
          refine WO.nil ?_
          refine WX.blockN ?_
          refine WX.thenC ?_
          refine WC.region ?_
          refine WL.step (ok_move rfl) rfl ?_
          refine WL.step (ok_add ((j + 1 : Nat) : Int) rfl rfl (by omega) (by omega) (by omega)) rfl ?_
          refine WL.step (ok_assign rfl) rfl ?_
          refine WL.nil ?_
          exact WX.again (j + 1) (by repeat (first | exact trivial | refine ⟨rfl, ?_⟩)) ⟨by omega, _, _, hS65, hIv.set _ (ho _ (List.getElem_mem hlt)) _, by rw [List.take_succ_eq_append_getElem hlt]; exact Cont.set hIv hC l[j] (ho _ (List.getElem_mem hlt)), fun b => Nat.le_trans (setS_len hIv _ (ho _ (List.getElem_mem hlt)) _ b) (Nat.succ_le_succ (hFl b)), (hK.trans (Kp.drew _ _)).trans hK65⟩ (by omega)
        ·
          have hge : j = l.length := by have := of_decide_eq_false hc37; omega
          have hC1 : Cont l nm Sh := by rw [hge, List.take_length] at hC; exact hC
          have hI1 := hTb.at
          obtain ⟨li, hli⟩ : ∃ li, li = l.map toI := ⟨_, rfl⟩
          have hlil : li.length = l.length := by rw [hli, List.length_map]
          refine WC.exit ?_
          refine WX.thenE ?_
          refine WX.thenE ?_
          refine WX.blockHit ?_
          refine WX.thenC ?_
          refine WC.seq ?_
          refine WC.seq ?_
          refine WC.region ?_
          refine WL.step (ok_assign rfl) rfl ?_
          refine WL.nil ?_
          refine WX.thenC ?_
          refine WC.block ?_
          refine WC.loop (fun p : Nat => [(0, .slice a' l.length cap'), (3, .pointer (some ⟨stb, 0, none⟩)), (5, .int .i64 (p : Nat))])
            (fun p w' => p ≤ 2 ∧ Ext w2 w') (fun p => 2 - p) 0 (by repeat (first | exact trivial | refine ⟨rfl, ?_⟩)) ?_ ?_
          · exact ⟨by omega, Kp.refl _ _⟩
          rintro p wp ⟨hp3, hEp⟩
          have hIp := hI1.ext hEp
          refine WC.seq ?_
          refine WC.seq ?_
          refine WC.region ?_
          refine WL.step (ok_move rfl) rfl ?_
          refine WL.step (ok_lss rfl rfl) rfl ?_
          refine WL.nil ?_
          refine WX.thenC ?_
          refine WC.cond rfl (fun hc64 => ?_) (fun hc64 => ?_)
          ·
            have hp2 : p < 2 := by have := of_decide_eq_true hc64; omega
            refine WC.skip ?_
            refine WX.thenC ?_
            refine WC.seq ?_
            refine WC.block ?_
            refine WC.seq ?_
            refine WC.region ?_
            refine WL.step (ok_move rfl) rfl ?_
            refine WL.step (ok_eql rfl rfl) rfl ?_
            obtain ⟨c, hcp⟩ : ∃ c, c = decide ((p : Int) = 1) := ⟨_, rfl⟩
            refine WL.rew 68 (.bool c) rfl (congrArg Value.bool hcp.symm) ?_
            refine WL.step (ok_assign rfl) rfl ?_
            refine WL.nil ?_
            refine WX.thenC ?_
            refine WC.seq ?_
            refine WC.region ?_
            refine WL.step (ok_assign rfl) rfl ?_
            refine WL.nil ?_
            refine WX.thenC ?_
            refine WC.seq ?_
            refine WC.seq ?_
            refine WC.region ?_
            refine WL.step (ok_assign rfl) rfl ?_
            refine WL.nil ?_
            refine WX.thenC ?_
            refine WC.block ?_
            refine WC.loop (fun x : Nat × Option Addr × Nat × List Nat => [(0, .slice a' l.length cap'), (3, .pointer (some ⟨stb, 0, none⟩)), (5, .int .i64 (p : Nat)), (6, .bool c), (7, .slice x.2.1 x.2.2.2.length x.2.2.1), (8, .int .i64 (x.1 : Nat))])
              (fun x w' => x.1 ≤ l.length ∧ x.2.2.2.length ≤ x.1 ∧ (∀ y ∈ x.2.2.2, Lst l c y) ∧ x.2.2.2.map (pa li) ++ dedC (l.drop x.1) c = dedC l c ∧ (∃ g, Slo w' (.slice x.2.1 x.2.2.2.length x.2.2.1) 3 1 x.2.2.2.length (nc x.2.2.2) g ∧ (∀ b, g = some b → wp.heap.size ≤ b)) ∧ Ext wp w') (fun x => l.length - x.1) (0, none, 0, []) (by repeat (first | exact trivial | refine ⟨rfl, ?_⟩)) ?_ ?_
            · exact ⟨by simp, by simp, by simp, by simp, ⟨none, .inl ⟨rfl, rfl, rfl, rfl⟩, by intro b h; cases h⟩, Kp.refl _ _⟩
            rintro ⟨j, av, cv, o⟩ w1 ⟨hjn2, hol, hoL, hded, ⟨g1, hS1, hg1⟩, hE1⟩
            dsimp only at hjn2 hol hoL hded hS1 hE1
            dsimp only
            refine WC.seq ?_
            refine WC.seq ?_
            refine WC.region ?_
            refine WL.step (ok_move rfl) rfl ?_
            refine WL.step (ok_move rfl) rfl ?_
            refine WL.step (ok_lenSlice rfl Try.underlying22) rfl ?_
            refine WL.step (ok_lss rfl rfl) rfl ?_
            refine WL.nil ?_
            refine WX.thenC ?_
            refine WC.cond rfl (fun hc72 => ?_) (fun hc72 => ?_)
            ·
              have hlt : j < l.length := by have := of_decide_eq_true hc72; omega
              obtain ⟨b, off, rfl, hr⟩ := (hIp.ext hE1).at hlt
              have hdj := dedC_drop l j hlt c
              refine WC.skip ?_
              refine WX.thenC ?_
              refine WC.seq ?_
              refine WC.block ?_
              refine WC.seq ?_
              refine WC.region ?_
              refine WL.step (ok_move rfl) rfl ?_
              refine WL.step (ok_move rfl) rfl ?_
              refine WL.step (ok_indexS _ rfl rfl rfl (by omega) Try.underlying22 sz32) rfl ?_
              refine WL.step (ok_field rfl fld32_3) rfl ?_
              refine WL.step (ok_load rfl one4 (ro_copy hr ho j hlt)) rfl ?_
              refine WL.step (ok_move rfl) rfl ?_
              refine WL.step (ok_eqlBool rfl rfl Try.underlying4) rfl ?_
              refine WL.step (ok_move rfl) rfl ?_
              refine WL.splitB 82 rfl (fun hb82 => ?_) (fun hb82 => ?_)
              ·
                refine WL.on rfl rfl ?_
                refine WL.step (ok_move rfl) rfl ?_
                refine WL.on rfl rfl ?_
                refine WL.step (ok_move rfl) rfl ?_
                refine WL.on rfl rfl ?_
                refine WL.call (ok_callF rfl isfn14) rfl (laterSameName l ho _ cap' j hlt (by omega) _ (hIp.ext hE1)) ?_
                rintro v w85 ⟨rfl, hE85⟩
                refine WL.on rfl rfl ?_
                refine WL.step (ok_not rfl) rfl ?_
                refine WL.step (ok_pickT rfl rfl) rfl ?_
                refine WL.nil ?_
                refine WX.thenC ?_
                refine WC.cond rfl (fun hc87 => ?_) (fun hc87 => ?_)
                ·
                  have hls : laterName l j = false := by simpa using hc87
                  rw [hls, if_neg (by decide), if_pos (by simpa using hb82)] at hdj
                  refine WC.region ?_
                  refine WL.step (ok_move rfl) rfl ?_
                  refine WL.step (ok_move rfl) rfl ?_
                  refine WL.buildSlice (size := 1) (nc [j]) elt43 (by decide) (by decide) rfl (fill_one 1 _ (.int .i64 ((j : Nat) : Int)) (by simp) rfl) rfl ?_
                  intro b90 w90 hb90 ho90 hk90 hs90
                  refine WL.append (c := 1) (b := b90) (off := 0) (m := 1) (news := nc [j]) (n := o.length) (xs := nc o) (v := .slice av o.length cv) (g := g1) rfl rfl rfl elt43 ((hS1.kp hE85 (fun _ _ f => f)).kp hk90 (fun _ _ f => f)) rfl ho90.rd0 (nc_one _) (by decide) (by omega) (by omega) ?_
                  intro v91 w91 g91 hS91 hK91 hg91
                  have hS91' := hS91
                  obtain ⟨b', cap9, sp', rfl, hB, hBl, hBc, hcap1, rfl⟩ := hS91.some (by omega)
                  have hgn : ∀ b, some b' = some b → wp.heap.size ≤ b := by
                    intro b hb
                    cases hb
                    rcases hg91 with h | ⟨h, _⟩
                    · exact hg1 b' h.symm
                    · cases h; exact Nat.le_trans hE1.size (Nat.le_trans hE85.size hk90.size)
                  refine WL.rew 91 (.slice (some ⟨b', 0, none⟩) (o ++ [j]).length cap9) rfl (by simp) ?_
                  refine WL.step (ok_assign rfl) rfl ?_
                  refine WL.nil ?_
                  refine WX.blockN ?_
                  refine WX.thenC ?_
                  refine WC.region ?_
                  refine WL.step (ok_move rfl) rfl ?_
                  refine WL.step (ok_add ((j + 1 : Nat) : Int) rfl rfl (by omega) (by omega) (by omega)) rfl ?_
                  refine WL.step (ok_assign rfl) rfl ?_
                  refine WL.nil ?_
                  exact WX.again (j + 1, some ⟨b', 0, none⟩, cap9, o ++ [j]) (by repeat (first | exact trivial | refine ⟨rfl, ?_⟩)) ⟨by show j + 1 ≤ _; omega, by show (o ++ [j]).length ≤ j + 1; simp; omega, by intro y hy; rcases List.mem_append.1 hy with h | h; exact hoL y h; simp at h; subst h; exact ⟨hlt, hls, by simpa using hb82⟩, by rw [← hded, hdj, hli]; simp [pa_toI l j hlt], ⟨_, sloNext hS91' rfl rfl, hgn⟩, ((hE1.trans hE85).trans hk90).over hK91 (fun k h1 h2 => by have := hg1 k h2; omega)⟩ (by show _ - (j + 1) < _ - j; omega)
                ·
                  have hls : laterName l j = true := by simpa using hc87
                  rw [hls, if_pos rfl] at hdj
                  refine WC.skip ?_
                  refine WX.blockN ?_
                  refine WX.thenC ?_
                  refine WC.region ?_
                  refine WL.step (ok_move rfl) rfl ?_
                  refine WL.step (ok_add ((j + 1 : Nat) : Int) rfl rfl (by omega) (by omega) (by omega)) rfl ?_
                  refine WL.step (ok_assign rfl) rfl ?_
                  refine WL.nil ?_
                  exact WX.again (j + 1, av, cv, o) (by repeat (first | exact trivial | refine ⟨rfl, ?_⟩)) ⟨by show j + 1 ≤ _; omega, by show o.length ≤ j + 1; omega, hoL, by rw [← hded, hdj], ⟨g1, hS1.kp hE85 (fun _ _ f => f), hg1⟩, hE1.trans hE85⟩ (by show _ - (j + 1) < _ - j; omega)
              ·
                have hcne : ¬ l[j].copy = c := by simpa using hb82
                rw [if_neg hcne, ite_self] at hdj
                refine WL.off rfl rfl rfl rfl ?_
                refine WL.off rfl rfl rfl rfl ?_
                refine WL.off rfl rfl rfl rfl ?_
                refine WL.off rfl rfl rfl rfl ?_
                refine WL.step (ok_pickF rfl rfl) rfl ?_
                refine WL.nil ?_
                refine WX.thenC ?_
                refine WC.condFb rfl rfl ?_
                refine WC.skip ?_
                refine WX.blockN ?_
                refine WX.thenC ?_
                refine WC.region ?_
                refine WL.step (ok_move rfl) rfl ?_
                refine WL.step (ok_add ((j + 1 : Nat) : Int) rfl rfl (by omega) (by omega) (by omega)) rfl ?_
                refine WL.step (ok_assign rfl) rfl ?_
                refine WL.nil ?_
                exact WX.again (j + 1, av, cv, o) (by repeat (first | exact trivial | refine ⟨rfl, ?_⟩)) ⟨by show j + 1 ≤ _; omega, by show o.length ≤ j + 1; omega, hoL, by rw [← hded, hdj], ⟨g1, hS1, hg1⟩, hE1⟩ (by show _ - (j + 1) < _ - j; omega)
            ·
              have hge : j = l.length := by have := of_decide_eq_false hc72; omega
              have hod : o.map (pa li) = dedC l c := by rw [hge, List.drop_length] at hded; simpa [dedC] using hded
              have hox : ∀ y ∈ o, y < l.length := fun y hy => (hoL y hy).1
              refine WC.exit ?_
              refine WX.thenE ?_
              refine WX.thenE ?_
              refine WX.blockHit ?_
              refine WX.thenC ?_
              refine WC.seq ?_
              refine WC.seq ?_
              refine WC.region ?_
              refine WL.step (ok_assign rfl) rfl ?_
              refine WL.nil ?_
              refine WX.thenC ?_
              refine WC.block ?_
              refine WC.loop (fun x : Nat × List Nat => [(0, .slice a' l.length cap'), (3, .pointer (some ⟨stb, 0, none⟩)), (5, .int .i64 (p : Nat)), (6, .bool c), (7, .slice av o.length cv), (9, .int .i64 (x.1 : Nat))])
                (fun x w' => 1 ≤ x.1 ∧ x.2.Perm o ∧ Srt ((x.2.take x.1).map (pa li)) ∧ Slo w' (.slice av o.length cv) 3 1 o.length (nc x.2) g1 ∧ Ext wp w') (fun x => o.length - x.1) (1, o) (by repeat (first | exact trivial | refine ⟨rfl, ?_⟩)) ?_ ?_
              · exact ⟨Nat.le_refl _, List.Perm.refl _, srt_one li o, hS1, hE1⟩
              rintro ⟨aa, q⟩ w2s ⟨haa, hpp, hsrt, hS2, hE2⟩
              dsimp only at haa hpp hsrt hS2 hE2
              dsimp only
              have hlp : q.length = o.length := hpp.length_eq
              have hkD : ∀ q : List Nat, q.Perm o → ∀ x ∈ q.map (pa li), K20 x := by
                intro q hq x hx
                obtain ⟨y, hy, rfl⟩ := List.mem_map.1 hx
                have hyl := hox y (hq.mem_iff.1 hy)
                rw [hli, pa_toI l y hyl]
                exact ho _ (List.getElem_mem hyl)
              have hnD : ∀ q : List Nat, q.Perm o → (q.map (pa li)).Nodup := fun q hq => ((hq.map (pa li)).nodup_iff).2 (by rw [hod]; exact dedC_nodup _ _)
              refine WC.seq ?_
              refine WC.seq ?_
              refine WC.region ?_
              refine WL.step (ok_move rfl) rfl ?_
              refine WL.step (ok_move rfl) rfl ?_
              refine WL.step (ok_lenSlice rfl Try.underlying43) rfl ?_
              refine WL.step (ok_lss rfl rfl) rfl ?_
              refine WL.nil ?_
              refine WX.thenC ?_
              refine WC.cond rfl (fun hc95 => ?_) (fun hc95 => ?_)
              ·
                have haN : aa < o.length := by have := of_decide_eq_true hc95; omega
                obtain ⟨ob, ocap, osp, heqo, hOo, hol1, hoc, hocc, hgo⟩ := hS2.some (by omega)
                cases heqo
                refine WC.skip ?_
                refine WX.thenC ?_
                refine WC.seq ?_
                refine WC.block ?_
                refine WC.seq ?_
                refine WC.region ?_
                refine WL.step (ok_move rfl) rfl ?_
                refine WL.step (ok_assign rfl) rfl ?_
                refine WL.nil ?_
                refine WX.thenC ?_
                refine WC.block ?_
                refine WC.loop (fun x : Nat × List Nat => [(0, .slice a' l.length cap'), (3, .pointer (some ⟨stb, 0, none⟩)), (5, .int .i64 (p : Nat)), (6, .bool c), (7, .slice (some ⟨ob, 0, none⟩) o.length cv), (9, .int .i64 (aa : Nat)), (10, .int .i64 (x.1 : Nat))])
                  (fun x w' => x.1 ≤ aa ∧ x.2.Perm o ∧ InsB li x.2 aa x.1 ∧ Own w' ob 3 (nc x.2 ++ osp) ∧ Ext wp w') (fun x => x.1) (aa, q) (by repeat (first | exact trivial | refine ⟨rfl, ?_⟩)) ?_ ?_
                · exact ⟨Nat.le_refl _, hpp, insB_start (show aa < q.length by omega) hsrt, hOo, hE2⟩
                rintro ⟨b, p2⟩ w3 ⟨hba, hpp2, hIB, hOb, hE3⟩
                dsimp only at hba hpp2 hIB hOb hE3
                dsimp only
                refine WC.seq ?_
                refine WC.seq ?_
                refine WC.region ?_
                refine WL.step (ok_move rfl) rfl ?_
                refine WL.step (ok_gtr rfl rfl) rfl ?_
                refine WL.nil ?_
                refine WX.thenC ?_
                refine WC.cond rfl (fun hc100 => ?_) (fun hc100 => ?_)
                ·
                  have hb0 : 0 < b := by have := of_decide_eq_true hc100; omega
                  have hlp2 : p2.length = o.length := hpp2.length_eq
                  have hbl : b < p2.length := by omega
                  have hx2 : ∀ x ∈ p2, x < l.length := fun x hx => hox x (hpp2.mem_iff.1 hx)
                  obtain ⟨xb, hxb⟩ : ∃ x, x = p2[b] := ⟨_, rfl⟩
                  obtain ⟨xb1, hxb1⟩ : ∃ x, x = p2[b - 1] := ⟨_, rfl⟩
                  have hv1 : xb < l.length := by rw [hxb]; exact hx2 _ (List.getElem_mem _)
                  have hv2 : xb1 < l.length := by rw [hxb1]; exact hx2 _ (List.getElem_mem _)
                  have hc1 : w3.cell? ⟨ob, 0 + b * 1, none⟩ = some (.int .i64 (xb : Nat)) := by rw [hxb]; exact rd_nat hOb.rd0.append_left b hbl
                  have hc2 : w3.cell? ⟨ob, 0 + (b - 1) * 1, none⟩ = some (.int .i64 (xb1 : Nat)) := by rw [hxb1]; exact rd_nat hOb.rd0.append_left (b - 1) (by omega)
                  obtain ⟨ib, ioff, rfl, hr⟩ := (hIp.ext hE3).at hv1
                  refine WC.skip ?_
                  refine WX.thenC ?_
                  refine WC.seq ?_
                  refine WC.block ?_
                  refine WC.seq ?_
                  refine WC.region ?_
                  refine WL.step (ok_move rfl) rfl ?_
                  refine WL.step (ok_move rfl) rfl ?_
                  refine WL.step (ok_move rfl) rfl ?_
                  refine WL.step (ok_indexS _ rfl rfl rfl (by omega) Try.underlying43 sz3) rfl ?_
                  refine WL.step (ok_load rfl one3 (hc1)) rfl ?_
                  refine WL.step (ok_indexS xb rfl rfl rfl (by omega) Try.underlying22 sz32) rfl ?_
                  refine WL.step (ok_loadN rfl agg32 sz32 (OpR.len ho _ (List.getElem_mem hv1)) (Rd.elem hr (OpR.len ho) xb hv1)) rfl ?_
                  refine WL.alloc zero32 rfl ?_
                  intro b11 w11 hb11 ho11 hk11 hs11
                  refine WL.store rfl rfl sz32 (ho11) (by simpa [Value.cells] using OpR.len ho _ (List.getElem_mem hv1)) (by simp [Value.cells, OpR.len ho _ (List.getElem_mem hv1)]) op_one ?_
                  intro wr29 hor29 hkr29 hsr29
                  have h11 : Own wr29 b11 32 l[xb].cells := by
                    have h0 := hor29
                    simp only [Value.cells] at h0
                    rw [splice_all _ _ (by simp [OpR.len ho _ (List.getElem_mem hv1)])] at h0
                    exact h0
                  have hE29' : Ext w3 wr29 := hk11.over hkr29 (fun i hi e => by omega)
                  have hOb29 := hOb.ext hE29'
                  have hr29 := hr.kp hE29' (fun f => f)
                  refine WL.nil ?_
                  refine WX.thenC ?_
                  refine WC.seq ?_
                  refine WC.region ?_
                  refine WL.step (ok_move rfl) rfl ?_
                  refine WL.step (ok_move rfl) rfl ?_
                  refine WL.step (ok_move rfl) rfl ?_
                  refine WL.step (ok_sub ((b - 1 : Nat) : Int) rfl rfl (by omega) (by omega) (by omega)) rfl ?_
                  refine WL.step (ok_indexS (b - 1) rfl rfl rfl (by omega) Try.underlying43 sz3) rfl ?_
                  refine WL.step (ok_load rfl one3 ((Kp.cell hE29' hc2 (fun f => f)))) rfl ?_
                  refine WL.step (ok_indexS xb1 rfl rfl rfl (by omega) Try.underlying22 sz32) rfl ?_
                  refine WL.step (ok_loadN rfl agg32 sz32 (OpR.len ho _ (List.getElem_mem hv2)) (Rd.elem hr29 (OpR.len ho) xb1 hv2)) rfl ?_
                  refine WL.alloc zero32 rfl ?_
                  intro b12 w12 hb12 ho12 hk12 hs12
                  refine WL.store rfl rfl sz32 (ho12) (by simpa [Value.cells] using OpR.len ho _ (List.getElem_mem hv2)) (by simp [Value.cells, OpR.len ho _ (List.getElem_mem hv2)]) op_one ?_
                  intro wr30 hor30 hkr30 hsr30
                  have h12 : Own wr30 b12 32 l[xb1].cells := by
                    have h0 := hor30
                    simp only [Value.cells] at h0
                    rw [splice_all _ _ (by simp [OpR.len ho _ (List.getElem_mem hv2)])] at h0
                    exact h0
                  have hE30 : Ext wr29 wr30 := hk12.over hkr30 (fun i hi e => by omega)
                  have h11b := h11.ext hE30
                  refine WL.nil ?_
                  refine WX.thenC ?_
                  refine WC.seq ?_
                  refine WC.seq ?_
                  refine WC.region ?_
                  refine WL.step (ok_field rfl fld32_0) rfl ?_
                  refine WL.step (ok_loadN rfl agg29 sz29 (by simp [ho _ (List.getElem_mem hv1)]) (rd_okey h11b.rd0)) rfl ?_
                  refine WL.step (ok_field rfl fld32_1) rfl ?_
                  refine WL.step (ok_load rfl one9 (rd_oname h11b.rd0 (ho _ (List.getElem_mem hv1)))) rfl ?_
                  refine WL.step (ok_field rfl fld32_0) rfl ?_
                  refine WL.step (ok_loadN rfl agg29 sz29 (by simp [ho _ (List.getElem_mem hv2)]) (rd_okey h12.rd0)) rfl ?_
                  refine WL.step (ok_field rfl fld32_1) rfl ?_
                  refine WL.step (ok_load rfl one9 (rd_oname h12.rd0 (ho _ (List.getElem_mem hv2)))) rfl ?_
                  refine WL.call (ok_callF rfl isfn20) rfl (lessPair l[xb].key l[xb1].key l[xb].name l[xb1].name (ho _ (List.getElem_mem hv1)) (ho _ (List.getElem_mem hv2)) _) ?_
                  rintro v w58 ⟨rfl, hE58⟩
                  have hE358 : Ext w3 w58 := (hE29'.trans hE30).trans hE58
                  have hO58 := hOb.ext hE358
                  have hfo : lt2 (fo li p2 b) (fo li p2 (b - 1)) = ltP l[xb].key l[xb].name.toList l[xb1].key l[xb1].name.toList := by
                    rw [fo_eq li p2 b hbl, fo_eq li p2 (b - 1) (by omega)]
                    simp only [List.getElem_map, ← hxb, ← hxb1, hli, pa_toI l xb hv1, pa_toI l xb1 hv2]
                    rfl
                  refine WL.step (ok_not rfl) rfl ?_
                  refine WL.nil ?_
                  refine WX.thenC ?_
                  refine WC.cond rfl (fun hc127 => ?_) (fun hc127 => ?_)
                  ·
                    have hnl : lt2 (fo li p2 b) (fo li p2 (b - 1)) = false := by rw [hfo]; simpa using hc127
                    refine WC.exit ?_
                    refine WX.thenE ?_
                    refine WX.blockMiss rfl ?_
                    refine WX.thenE ?_
                    refine WX.thenE ?_
                    refine WX.blockHit ?_
                    refine WX.blockN ?_
                    refine WX.thenC ?_
                    refine WC.region ?_
                    refine WL.step (ok_move rfl) rfl ?_
                    refine WL.step (ok_add ((aa + 1 : Nat) : Int) rfl rfl (by omega) (by omega) (by omega)) rfl ?_
                    refine WL.step (ok_assign rfl) rfl ?_
                    refine WL.nil ?_
                    exact WX.again (aa + 1, p2) (by repeat (first | exact trivial | refine ⟨rfl, ?_⟩)) ⟨by show 1 ≤ aa + 1; omega, hpp2, insB_end (show aa < p2.length by omega) hba (hkD p2 hpp2) (hnD p2 hpp2) hIB (.inr hnl), .inr ⟨ob, cv, osp, rfl, hO58, by simp [hlp2], by simp [hlp2]; simp at hoc; omega, hocc, hgo⟩, hE3.trans hE358⟩ (by show _ - (aa + 1) < _ - aa; omega)
                  ·
                    have hnl : lt2 (fo li p2 b) (fo li p2 (b - 1)) = true := by rw [hfo]; simpa using hc127
                    refine WC.skip ?_
                    refine WX.thenC ?_
                    refine WC.seq ?_
                    refine WC.region ?_
                    refine WL.step (ok_move rfl) rfl ?_
                    refine WL.step (ok_move rfl) rfl ?_
                    refine WL.step (ok_indexS _ rfl rfl rfl (by omega) Try.underlying43 sz3) rfl ?_
                    refine WL.step (ok_load rfl one3 ((Kp.cell hE358 hc1 (fun f => f)))) rfl ?_
                    refine WL.step (ok_assign rfl) rfl ?_
                    refine WL.nil ?_
                    refine WX.thenC ?_
                    refine WC.seq ?_
                    refine WC.region ?_
                    refine WL.step (ok_move rfl) rfl ?_
                    refine WL.step (ok_move rfl) rfl ?_
                    refine WL.step (ok_move rfl) rfl ?_
                    refine WL.step (ok_move rfl) rfl ?_
                    refine WL.step (ok_sub ((b - 1 : Nat) : Int) rfl rfl (by omega) (by omega) (by omega)) rfl ?_
                    refine WL.step (ok_indexS (b - 1) rfl rfl rfl (by omega) Try.underlying43 sz3) rfl ?_
                    refine WL.step (ok_load rfl one3 ((Kp.cell hE358 hc2 (fun f => f)))) rfl ?_
                    refine WL.step (ok_indexS b rfl rfl rfl (by omega) Try.underlying43 sz3) rfl ?_
                    refine WL.store rfl rfl sz3 (hO58) (by simp [Value.cells]) (by simp [Value.cells]; omega) (by simp [Value.cells, Value.oneCell']) ?_
                    intro wr33 hor33 hkr33 hsr33
                    have h33 : Own wr33 ob 3 (nc (p2.set b xb1) ++ osp) := by
                      have h0 := hor33
                      simp only [Value.cells] at h0
                      rw [← nc_set p2 b xb1 osp hbl]
                      exact h0
                    refine WL.nil ?_
                    refine WX.thenC ?_
                    refine WC.region ?_
                    refine WL.step (ok_move rfl) rfl ?_
                    refine WL.step (ok_move rfl) rfl ?_
                    refine WL.step (ok_sub ((b - 1 : Nat) : Int) rfl rfl (by omega) (by omega) (by omega)) rfl ?_
                    refine WL.step (ok_move rfl) rfl ?_
                    refine WL.step (ok_indexS (b - 1) rfl rfl rfl (by omega) Try.underlying43 sz3) rfl ?_
                    refine WL.store rfl rfl sz3 (h33) (by simp [Value.cells]) (by simp [Value.cells]; omega) (by simp [Value.cells, Value.oneCell']) ?_
                    intro wr34 hor34 hkr34 hsr34
                    have h34 : Own wr34 ob 3 (nc (swp p2 b) ++ osp) := by
                      have h0 := hor34
                      simp only [Value.cells] at h0
                      have h1 : p2.getD (b - 1) 0 = xb1 := by simp [List.getD, show b - 1 < p2.length by omega, hxb1]
                      have h2 : p2.getD b 0 = xb := by simp [List.getD, hbl, hxb]
                      unfold swp
                      rw [h1, h2, ← nc_set (p2.set b xb1) (b - 1) xb osp (by simp; omega)]
                      exact h0
                    have hobl : wp.heap.size ≤ ob := hg1 ob hgo
                    have hE318 : Ext wp wr34 := ((hE3.trans hE358).over hkr33 (fun i hi e => by omega)).over hkr34 (fun i hi e => by omega)
                    refine WL.nil ?_
                    refine WX.blockN ?_
                    refine WX.thenC ?_
                    refine WC.region ?_
                    refine WL.step (ok_move rfl) rfl ?_
                    refine WL.step (ok_sub ((b - 1 : Nat) : Int) rfl rfl (by omega) (by omega) (by omega)) rfl ?_
                    refine WL.step (ok_assign rfl) rfl ?_
                    refine WL.nil ?_
                    exact WX.again (b - 1, swp p2 b) (by repeat (first | exact trivial | refine ⟨rfl, ?_⟩)) ⟨by show b - 1 ≤ aa; omega, (swp_perm p2 b hbl).trans hpp2, insB_step (by omega) hb0 hba hIB hnl, h34, hE318⟩ (by show b - 1 < b; omega)
                ·
                  have hlp2 : p2.length = o.length := hpp2.length_eq
                  have hbl : b < p2.length := by omega
                  have hx2 : ∀ x ∈ p2, x < l.length := fun x hx => hox x (hpp2.mem_iff.1 hx)
                  have hb0 : b = 0 := by have := of_decide_eq_false hc100; omega
                  refine WC.exit ?_
                  refine WX.thenE ?_
                  refine WX.thenE ?_
                  refine WX.blockHit ?_
                  refine WX.blockN ?_
                  refine WX.thenC ?_
                  refine WC.region ?_
                  refine WL.step (ok_move rfl) rfl ?_
                  refine WL.step (ok_add ((aa + 1 : Nat) : Int) rfl rfl (by omega) (by omega) (by omega)) rfl ?_
                  refine WL.step (ok_assign rfl) rfl ?_
                  refine WL.nil ?_
                  exact WX.again (aa + 1, p2) (by repeat (first | exact trivial | refine ⟨rfl, ?_⟩)) ⟨by show 1 ≤ aa + 1; omega, hpp2, insB_end (show aa < p2.length by omega) hba (hkD p2 hpp2) (hnD p2 hpp2) hIB (.inl hb0), .inr ⟨ob, cv, osp, rfl, hOb, by simp [hlp2], by simp [hlp2]; simp at hoc; omega, hocc, hgo⟩, hE3⟩ (by show _ - (aa + 1) < _ - aa; omega)
              ·
                have haN : o.length ≤ aa := by have := of_decide_eq_false hc95; omega
                have hsrt2 : Srt (q.map (pa li)) := by rw [List.take_of_length_le (by omega)] at hsrt; exact hsrt
                have hqL : ∀ x ∈ q, Lst l c x := fun x hx => hoL x (hpp.mem_iff.1 hx)
                rw [← hlp] at hS2 ⊢
                have hSt4 := (hSt.ext hEp).ext hE2
                obtain ⟨hd, mp, rs, g, hR, hslots⟩ := hSt4
                obtain ⟨rsc, hrsc⟩ : ∃ x, x = rs c := ⟨_, rfl⟩
                have hRs := hR.runs c
                rw [← hrsc] at hRs
                obtain ⟨ha, hcap, hhd⟩ := hRs.hdl
                rw [hhd] at hRs
                have hslc : slots rsc = Sh c := by rw [hrsc]; exact hslots c
                have hinv : Inv (slots rsc) := by rw [hslc]; exact hIv.inv c
                have hprm : (prs (slots rsc)).Perm (q.map (pa li)) := by rw [hslc]; refine (shelf_perm hIv hC1 c).trans ?_; rw [← hod]; exact (hpp.map _).symm
                have hpr : prs (slots rsc) = q.map (pa li) := srt_eq hinv.srt hsrt2 hinv.key hprm
                have hfl : (slots rsc).flatten.length = q.length := by have h1 := congrArg List.length hpr; unfold prs at h1; rw [List.length_map, List.length_map] at h1; exact h1
                have hsmo : sumL (lens (slots rsc)) = q.length := by rw [← flat_len, hfl]
                have hql : q.length ≤ l.length := by rw [← hfl, hslc]; have := hFl c; omega
                have hrsl : rsc.length ≤ l.length := by have := hinv.len; rw [slots_length, hfl] at this; omega
                have hlen : (lens (slots rsc)).length = rsc.length := by simp [lens, slots]
                obtain ⟨w2b, hw2b⟩ : ∃ x, x = w2s := ⟨_, rfl⟩
                rw [← hw2b] at hS2 hE2 hR hRs ⊢
                refine WC.exit ?_
                refine WX.thenE ?_
                refine WX.thenE ?_
                refine WX.blockHit ?_
                refine WX.thenC ?_
                refine WC.seq ?_
                refine WC.region ?_
                refine WL.step (ok_move rfl) rfl ?_
                refine WL.step (ok_move rfl) rfl ?_
                refine WL.call (ok_callF rfl isfn22) rfl (storeShelfX stb c _) ?_
                rintro v w147 ⟨rfl, hw147⟩
                have hw147 := hw147.symm
                subst hw147
                refine WL.call (ok_callF rfl isfn21) rfl (shelfRuns stb c.toNat _ _ (hR.at c).1) ?_
                rintro v w148 ⟨rfl, hw148⟩
                have hw148 := hw148.symm
                subst hw148
                refine WL.rew 148 (.slice ha rsc.length hcap) rfl hhd ?_
                refine WL.step (ok_assign rfl) rfl ?_
                refine WL.nil ?_
                refine WX.thenC ?_
                refine WC.seq ?_
                refine WC.seq ?_
                refine WC.region ?_
                refine WL.step (ok_move rfl) rfl ?_
                refine WL.step (ok_lenSlice rfl Try.underlying45) rfl ?_
                refine WL.step (ok_move rfl) rfl ?_
                refine WL.step (ok_lenSlice rfl Try.underlying22) rfl ?_
                refine WL.step (ok_gtr rfl rfl) rfl ?_
                refine WL.nil ?_
                refine WX.thenC ?_
                refine WC.condFb rfl (decide_eq_false (by omega)) ?_
                refine WC.skip ?_
                refine WX.thenC ?_
                refine WC.seq ?_
                refine WC.region ?_
                refine WL.step (ok_move rfl) rfl ?_
                refine WL.step (ok_lenSlice rfl Try.underlying45) rfl ?_
                refine WL.rew 155 (.int .i64 ((lens (slots rsc)).length : Nat)) rfl (by rw [hlen]) ?_
                refine WL.make ((lens (slots rsc)).length) elt43 rfl (by omega) (by omega) rfl ?_
                intro b156 w156 c156 hb156 ho156 hl156 hz156 hk156 hs156
                refine WL.step (ok_assign rfl) rfl ?_
                refine WL.nil ?_
                refine WX.thenC ?_
                refine WC.seq ?_
                refine WC.seq ?_
                refine WC.region ?_
                refine WL.step (ok_assign rfl) rfl ?_
                refine WL.nil ?_
                refine WX.thenC ?_
                refine WC.block ?_
                refine WC.loop (fun j : Nat => [(0, .slice a' l.length cap'), (3, .pointer (some ⟨stb, 0, none⟩)), (5, .int .i64 (p : Nat)), (7, .slice av q.length cv), (14, .slice ha rsc.length hcap), (15, .slice (some ⟨b156, 0, none⟩) (lens (slots rsc)).length (lens (slots rsc)).length), (16, .int .i64 (j : Nat))])
                  (fun j w' => j ≤ rsc.length ∧ (∃ rest, Own w' b156 3 (nc ((lens (slots rsc)).take j) ++ rest) ∧ rest.length = rsc.length - j) ∧ Ext w2b w') (fun j => rsc.length - j) 0 (by repeat (first | exact trivial | refine ⟨rfl, ?_⟩)) ?_ ?_
                · exact ⟨by omega, ⟨c156, by simpa [nc] using ho156, by simp [hl156, hlen]⟩, hk156⟩
                rintro j w5 ⟨hjn3, ⟨rest, hOl, hrest⟩, hE5⟩
                refine WC.seq ?_
                refine WC.seq ?_
                refine WC.region ?_
                refine WL.step (ok_move rfl) rfl ?_
                refine WL.step (ok_move rfl) rfl ?_
                refine WL.step (ok_lenSlice rfl Try.underlying45) rfl ?_
                refine WL.step (ok_lss rfl rfl) rfl ?_
                refine WL.nil ?_
                refine WX.thenC ?_
                refine WC.cond rfl (fun hc160 => ?_) (fun hc160 => ?_)
                ·
                  have hlt : j < rsc.length := by have := of_decide_eq_true hc160; omega
                  obtain ⟨gb, hcap', spg, heq, hgg, hOg, hcl⟩ := (hRs.ext hE5).hd (by intro e; rw [e] at hlt; simp at hlt)
                  cases heq
                  refine WC.skip ?_
                  refine WX.thenC ?_
                  refine WC.seq ?_
                  refine WC.block ?_
                  refine WC.region ?_
                  refine WL.step (ok_move rfl) rfl ?_
                  refine WL.step (ok_move rfl) rfl ?_
                  refine WL.step (ok_move rfl) rfl ?_
                  refine WL.step (ok_move rfl) rfl ?_
                  refine WL.step (ok_indexS _ rfl rfl rfl (by omega) Try.underlying45 sz49) rfl ?_
                  refine WL.step (ok_load rfl one49 (rd_hdr hOg j hlt)) rfl ?_
                  refine WL.step (ok_lenSlice rfl Try.underlying49) rfl ?_
                  refine WL.step (ok_indexS _ rfl rfl rfl (by omega) Try.underlying43 sz3) rfl ?_
                  refine WL.store rfl rfl sz3 (hOl) (by simp [Value.cells]) (by simp [Value.cells]; omega) (by simp [Value.cells, Value.oneCell']) ?_
                  intro wr42 hor42 hkr42 hsr42
                  have hor42' : Own wr42 b156 3 (nc ((lens (slots rsc)).take (j + 1)) ++ rest.drop 1) := by
                    have h0 := hor42
                    simp only [Value.cells] at h0
                    rw [← nc_take_succ (lens (slots rsc)) j (by omega) rest rsc[j].sl.length (by simp [lens, slots])]
                    exact h0
                  have hE42 : Ext w2b wr42 := hE5.over hkr42 (fun i hi e => by omega)
                  refine WL.nil ?_
                  refine WX.blockN ?_
                  refine WX.thenC ?_
                  refine WC.region ?_
                  refine WL.step (ok_move rfl) rfl ?_
                  refine WL.step (ok_add ((j + 1 : Nat) : Int) rfl rfl (by omega) (by omega) (by omega)) rfl ?_
                  refine WL.step (ok_assign rfl) rfl ?_
                  refine WL.nil ?_
                  exact WX.again (j + 1) (by repeat (first | exact trivial | refine ⟨rfl, ?_⟩)) ⟨by omega, ⟨rest.drop 1, hor42', by simp [hrest]; omega⟩, hE42⟩ (by omega)
                ·
                  have hge3 : j = rsc.length := by have := of_decide_eq_false hc160; omega
                  have hRl : Rd w5 b156 0 (nc (lens (slots rsc))) := by rw [hge3, ← hlen, List.take_length] at hOl; exact hOl.rd0.append_left
                  refine WC.exit ?_
                  refine WX.thenE ?_
                  refine WX.thenE ?_
                  refine WX.blockHit ?_
                  refine WX.thenC ?_
                  refine WC.seq ?_
                  refine WC.seq ?_
                  refine WC.region ?_
                  refine WL.step (ok_move rfl) rfl ?_
                  refine WL.call (ok_callF rfl isfn23) rfl (runsBounded (lens (slots rsc)) hinv.bd b156 0 _ (by omega) _ hRl) ?_
                  rintro v w172 ⟨rfl, hE172⟩
                  have hE6 := hE5.trans hE172
                  refine WL.step (ok_not rfl) rfl ?_
                  refine WL.nil ?_
                  refine WX.thenC ?_
                  refine WC.condFb rfl rfl ?_
                  refine WC.skip ?_
                  refine WX.thenC ?_
                  refine WC.seq ?_
                  refine WC.region ?_
                  refine WL.step (ok_assign rfl) rfl ?_
                  refine WL.nil ?_
                  refine WX.thenC ?_
                  refine WC.seq ?_
                  refine WC.seq ?_
                  refine WC.region ?_
                  refine WL.step (ok_assign rfl) rfl ?_
                  refine WL.nil ?_
                  refine WX.thenC ?_
                  refine WC.block ?_
                  refine WC.loop (fun r : Nat => [(0, .slice a' l.length cap'), (3, .pointer (some ⟨stb, 0, none⟩)), (5, .int .i64 (p : Nat)), (7, .slice av q.length cv), (14, .slice ha rsc.length hcap), (17, .int .i64 (sumL ((lens (slots rsc)).take r) : Nat)), (18, .int .i64 (r : Nat))])
                    (fun r w' => r ≤ rsc.length ∧ Ext w2b w') (fun r => rsc.length - r) 0 (by repeat (first | exact trivial | refine ⟨rfl, ?_⟩)) ?_ ?_
                  · exact ⟨by omega, hE6⟩
                  rintro r w6 ⟨hrn, hE8⟩
                  refine WC.seq ?_
                  refine WC.seq ?_
                  refine WC.region ?_
                  refine WL.step (ok_move rfl) rfl ?_
                  refine WL.step (ok_move rfl) rfl ?_
                  refine WL.step (ok_lenSlice rfl Try.underlying45) rfl ?_
                  refine WL.step (ok_lss rfl rfl) rfl ?_
                  refine WL.nil ?_
                  refine WX.thenC ?_
                  refine WC.cond rfl (fun hc177 => ?_) (fun hc177 => ?_)
                  ·
                    have hr6 : r < rsc.length := by have := of_decide_eq_true hc177; omega
                    obtain ⟨gb, hcap', spg, heq, hgg, hOg, hcl⟩ := (hRs.ext hE8).hd (by intro e; rw [e] at hr6; simp at hr6)
                    cases heq
                    have hsj := sumL_take_succ (lens (slots rsc)) r (by omega)
                    have hsj2 : (lens (slots rsc))[r]'(by omega) = rsc[r].sl.length := by simp [lens, slots]
                    rw [hsj2] at hsj
                    have hsj3 := sumL_take_le (lens (slots rsc)) (r + 1)
                    refine WC.skip ?_
                    refine WX.thenC ?_
                    refine WC.seq ?_
                    refine WC.block ?_
                    refine WC.seq ?_
                    refine WC.region ?_
                    refine WL.step (ok_assign rfl) rfl ?_
                    refine WL.nil ?_
                    refine WX.thenC ?_
                    refine WC.block ?_
                    refine WC.loop (fun i : Nat => [(0, .slice a' l.length cap'), (3, .pointer (some ⟨stb, 0, none⟩)), (5, .int .i64 (p : Nat)), (7, .slice av q.length cv), (14, .slice (some ⟨gb, 0, none⟩) rsc.length hcap), (17, .int .i64 ((sumL ((lens (slots rsc)).take r) + i : Nat) : Int)), (18, .int .i64 (r : Nat)), (19, .int .i64 (i : Nat))])
                      (fun i w' => i ≤ rsc[r].sl.length ∧ Ext w6 w') (fun i => rsc[r].sl.length - i) 0 (by repeat (first | exact trivial | refine ⟨rfl, ?_⟩)) ?_ ?_
                    · exact ⟨by omega, Kp.refl _ _⟩
                    rintro i w7 ⟨hin, hE67⟩
                    have hE27 : Ext w2b w7 := hE8.trans hE67
                    obtain ⟨gb6, hcap6, spg6, heq6, hg6, hOg6, hcl6⟩ := (hRs.ext hE27).hd (by intro e; rw [e] at hr6; simp at hr6)
                    cases heq6
                    have hrun := (hRs.ext hE27).run rsc[r] (List.getElem_mem hr6)
                    refine WC.seq ?_
                    refine WC.seq ?_
                    refine WC.region ?_
                    refine WL.step (ok_move rfl) rfl ?_
                    refine WL.step (ok_move rfl) rfl ?_
                    refine WL.step (ok_move rfl) rfl ?_
                    refine WL.step (ok_indexS _ rfl rfl rfl (by omega) Try.underlying45 sz49) rfl ?_
                    refine WL.step (ok_load rfl one49 (rd_hdr hOg6 r hr6)) rfl ?_
                    refine WL.step (ok_lenSlice rfl Try.underlying49) rfl ?_
                    refine WL.step (ok_lss rfl rfl) rfl ?_
                    refine WL.nil ?_
                    refine WX.thenC ?_
                    refine WC.cond rfl (fun hc186 => ?_) (fun hc186 => ?_)
                    ·
                      have hi : i < rsc[r].sl.length := by have := of_decide_eq_true hc186; omega
                      obtain ⟨pos, hpos⟩ : ∃ p, p = sumL ((lens (slots rsc)).take r) + i := ⟨_, rfl⟩
                      have hposl : pos < q.length := by omega
                      obtain ⟨ob, ocap, osp, heqo, hOo, hol1, hoc, hocc, hgo⟩ := (hS2.kp hE27 (fun _ _ f => f)).some (by omega)
                      cases heqo
                      obtain ⟨xb, hxb⟩ : ∃ x, x = q[pos] := ⟨_, rfl⟩
                      have hxL : Lst l c xb := by rw [hxb]; exact hqL _ (List.getElem_mem _)
                      obtain ⟨hxl, hxn, hxc⟩ := hxL
                      have hcx : w7.cell? ⟨ob, 0 + pos * 1, none⟩ = some (.int .i64 (xb : Nat)) := by rw [hxb]; exact rd_nat hOo.rd0.append_left pos hposl
                      have hIo := ((hIp.ext hE2).ext hE27)
                      obtain ⟨ib, ioff, rfl, hro⟩ := hIo.at hxl
                      have hsame2 : ps rsc[r].sl[i] = pk (toI l[xb]) := by
                        have h1 := flat_get (slots rsc) r i (by rw [slots_length]; exact hr6) (by simpa [slots] using hi)
                        have h2 : (prs (slots rsc))[pos]? = some (ps rsc[r].sl[i]) := by
                          unfold prs
                          rw [List.getElem?_map, hpos, h1]
                          simp [slots]
                        rw [hpr, List.getElem?_map, List.getElem?_eq_getElem hposl, ← hxb] at h2
                        simp only [Option.map_some, Option.some.injEq] at h2
                        rw [← h2, hli, pa_toI l xb hxl]
                      have hSe : rsc[r].sl[i] = slotOf l[xb] := by
                        have hm : rsc[r].sl[i] ∈ (Sh c).flatten := by
                          rw [← hslc]
                          exact List.mem_flatten.2 ⟨rsc[r].sl, List.mem_map.2 ⟨rsc[r], List.getElem_mem hr6, rfl⟩, List.getElem_mem hi⟩
                        obtain ⟨o', e1, e2⟩ := hC1.slot c _ hm
                        have hnm : rsc[r].sl[i].name = l[xb].name := ba_toList (congrArg Prod.snd hsame2)
                        rw [hnm, lastOp_at l xb hxl hxn] at e1
                        cases e1; exact e2
                      have hokS := hrun.1 _ (List.getElem_mem hi)
                      have hik := ho _ (List.getElem_mem hxl)
                      have hslen : rsc[r].sl[i].cells.length = 23 := Slot.len hrun.1 _ (List.getElem_mem hi)
                      have hilen : l[xb].cells.length = 23 := OpR.len ho _ (List.getElem_mem hxl)
                      refine WC.skip ?_
                      refine WX.thenC ?_
                      refine WC.seq ?_
                      refine WC.block ?_
                      refine WC.seq ?_
                      refine WC.seq ?_
                      refine WC.region ?_
                      refine WL.step (ok_move rfl) rfl ?_
                      refine WL.step (ok_move rfl) rfl ?_
                      refine WL.step (ok_lenSlice rfl Try.underlying43) rfl ?_
                      refine WL.step (ok_geq rfl rfl) rfl ?_
                      refine WL.nil ?_
                      refine WX.thenC ?_
                      refine WC.condFb rfl (decide_eq_false (by omega)) ?_
                      refine WC.skip ?_
                      refine WX.thenC ?_
                      refine WC.seq ?_
                      refine WC.region ?_
                      refine WL.step (ok_move rfl) rfl ?_
                      refine WL.step (ok_move rfl) rfl ?_
                      refine WL.step (ok_move rfl) rfl ?_
                      refine WL.step (ok_indexS pos rfl rfl (by rw [hpos]) (by omega) Try.underlying43 sz3) rfl ?_
                      refine WL.step (ok_load rfl one3 (hcx)) rfl ?_
                      refine WL.step (ok_indexS xb rfl rfl rfl (by omega) Try.underlying22 sz32) rfl ?_
                      refine WL.step (ok_loadN rfl agg32 sz32 hilen (Rd.elem hro (OpR.len ho) xb hxl)) rfl ?_
                      refine WL.alloc zero32 rfl ?_
                      intro b20 w20 hb20 ho20 hk20 hs20
                      refine WL.store rfl rfl sz32 (ho20) (by simpa [Value.cells] using hilen) (by simp [Value.cells, hilen]) op_one ?_
                      intro wr54 hor54 hkr54 hsr54
                      have h20 : Own wr54 b20 32 l[xb].cells := by
                        have h0 := hor54
                        simp only [Value.cells] at h0
                        rw [splice_all _ _ (by simp [hilen])] at h0
                        exact h0
                      have hE54 : Ext w7 wr54 := hk20.over hkr54 (fun i hi e => by omega)
                      refine WL.nil ?_
                      refine WX.thenC ?_
                      refine WC.seq ?_
                      refine WC.region ?_
                      refine WL.step (ok_move rfl) rfl ?_
                      refine WL.step (ok_move rfl) rfl ?_
                      refine WL.step (ok_indexS _ rfl rfl rfl (by omega) Try.underlying45 sz49) rfl ?_
                      refine WL.step (ok_load rfl one49 (rd_hdr (hOg6.ext hE54) r hr6)) rfl ?_
                      refine WL.step (ok_move rfl) rfl ?_
                      refine WL.step (ok_indexS i rfl rfl rfl (by omega) Try.underlying49 sz54) rfl ?_
                      refine WL.step (ok_loadN rfl agg54 sz54 hslen (((hrun.slot i hi).kp hE54 (fun f => f)))) rfl ?_
                      refine WL.call (ok_callF rfl isfn24) rfl (slotEntry rsc[r].sl[i] hokS _) ?_
                      rintro v w207 ⟨rfl, hE207⟩
                      obtain ⟨E, hE⟩ : ∃ E, E = (slotOf l[xb]).ent := ⟨_, rfl⟩
                      have helen : E.length = 22 := by rw [hE, slotOf_ent]; simp [hik]
                      refine WL.rew 207 (.agg E.toArray) rfl (by rw [hSe, hE]) ?_
                      have hEone : ∀ u ∈ E, u.oneCell' = true := by rw [hE, ← hSe]; exact ent_one hokS
                      refine WL.alloc zero35 rfl ?_
                      intro b21 w21 hb21 ho21 hk21 hs21
                      refine WL.store rfl rfl sz35 (ho21) (by simpa [Value.cells] using helen) (by simp [Value.cells, helen]) (by simpa [Value.cells] using hEone) ?_
                      intro wr55 hor55 hkr55 hsr55
                      have h21 : Own wr55 b21 35 (slotOf l[xb]).ent := by
                        have h := (show Own wr55 b21 35 (splice _ 0 E) from hor55)
                        rw [splice_all _ _ (by rw [helen]; rfl)] at h
                        rw [← hE]; exact h
                      have hE55 : Ext wr54 wr55 := (hE207.trans hk21).over hkr55 (fun i hi e => by have := hE207.size; omega)
                      have h20b := h20.ext hE55
                      have hE755 := hE54.trans hE55
                      have hI7 := hIo.ext hE755
                      refine WL.nil ?_
                      refine WX.thenC ?_
                      refine WC.seq ?_
                      refine WC.seq ?_
                      refine WC.region ?_
                      refine WL.step (ok_field rfl fld35_0) rfl ?_
                      refine WL.step (ok_loadN rfl agg33 sz33 (by simp [slotOf, hik]) (rd_ekey h21.rd0)) rfl ?_
                      refine WL.step (ok_field rfl fld32_0) rfl ?_
                      refine WL.step (ok_loadN rfl agg29 sz29 (by simp [hik]) (rd_okey h20b.rd0)) rfl ?_
                      refine WL.call (ok_callF rfl isfn16) rfl (cmpKey l[xb].key l[xb].key hik hik _) ?_
                      rintro v w212 ⟨rfl, hE212⟩
                      refine WL.step (ok_neq rfl rfl) rfl ?_
                      refine WL.step (ok_move rfl) rfl ?_
                      refine WL.rew 214 (.bool false) rfl (congrArg Value.bool (by rw [cmpK_self]; rfl)) ?_
                      refine WL.on rfl rfl ?_
                      refine WL.step (ok_field rfl fld35_1) rfl ?_
                      refine WL.on rfl rfl ?_
                      refine WL.step (ok_load rfl one9 (rd_ename (h21.ext hE212).rd0 hik)) rfl ?_
                      refine WL.on rfl rfl ?_
                      refine WL.step (ok_field rfl fld32_1) rfl ?_
                      refine WL.on rfl rfl ?_
                      refine WL.step (ok_load rfl one9 (rd_oname (h20b.ext hE212).rd0 hik)) rfl ?_
                      refine WL.on rfl rfl ?_
                      refine WL.step (ok_neqS rfl rfl) rfl ?_
                      refine WL.step (ok_pickF rfl rfl) rfl ?_
                      refine WL.step (ok_move rfl) rfl ?_
                      refine WL.rew 221 (.bool false) rfl (congrArg Value.bool (by simp [slotOf])) ?_
                      refine WL.on rfl rfl ?_
                      refine WL.step (ok_field rfl fld35_2) rfl ?_
                      refine WL.on rfl rfl ?_
                      refine WL.step (ok_load rfl one30 (rd_eval (h21.ext hE212).rd0 hik)) rfl ?_
                      refine WL.on rfl rfl ?_
                      refine WL.step (ok_field rfl fld32_2) rfl ?_
                      refine WL.on rfl rfl ?_
                      refine WL.step (ok_load rfl one30 (rd_oval (h20b.ext hE212).rd0 hik)) rfl ?_
                      refine WL.on rfl rfl ?_
                      refine WL.call (ok_callF rfl isfn17) rfl (bytesSame l[xb].vl l[xb].va l[xb].va l[xb].vcap l[xb].vcap (hsm _ (List.getElem_mem hxl)).2 _ ((hI7.val _ (List.getElem_mem hxl)).ext hE212) ((hI7.val _ (List.getElem_mem hxl)).ext hE212)) ?_
                      rintro v w226 ⟨rfl, hE226⟩
                      have hE726 : Ext w7 w226 := (hE755.trans hE212).trans hE226
                      have hI26 := hIo.ext hE726
                      have h20c := (h20b.ext hE212).ext hE226
                      refine WL.on rfl rfl ?_
                      refine WL.step (ok_not rfl) rfl ?_
                      refine WL.step (ok_pickF rfl rfl) rfl ?_
                      refine WL.nil ?_
                      refine WX.thenC ?_
                      refine WC.condFb rfl rfl ?_
                      refine WC.skip ?_
                      refine WX.thenC ?_
                      refine WC.seq ?_
                      refine WC.seq ?_
                      refine WC.drawE [] 8 [(0, true), (1, true), (2, true), (3, true), (4, true), (5, true), (6, true), (8, true), (9, true), (10, true), (11, true), (7, false), (12, false), (13, true)] mixed (by kernel_rfl) (fun hS => ?_)
                      refine WO.quiet rfl (fun _ _ => ok_move rfl) hS rfl ?_
                      refine WO.quiet rfl (fun _ _ => ok_move rfl) hS rfl ?_
                      refine WO.quiet rfl (fun _ _ => ok_indexS _ rfl rfl rfl (by omega) Try.underlying45 sz49) hS rfl ?_
                      refine WO.quiet rfl (fun _ hw => ok_load rfl one49 (Kp.cell hw (rd_hdr (hOg6.ext hE726) r hr6) (fun f => f))) hS rfl ?_
                      refine WO.quiet rfl (fun _ _ => ok_move rfl) hS rfl ?_
                      refine WO.quiet rfl (fun _ _ => ok_indexS i rfl rfl rfl (by omega) Try.underlying49 sz54) hS rfl ?_
                      refine WO.quiet rfl (fun _ hw => ok_loadN rfl agg54 sz54 hslen (Rd.kp (((hrun.slot i hi).kp hE726 (fun f => f))) hw (fun f => f))) hS rfl ?_
                      refine WO.quiet rfl (fun _ _ => ok_field rfl fld32_1) hS rfl ?_
                      refine WO.quiet rfl (fun _ hw => ok_load rfl one9 (Kp.cell hw (rd_oname h20c.rd0 hik) (fun f => f))) hS rfl ?_
                      refine WO.quiet rfl (fun _ _ => ok_field rfl fld32_2) hS rfl ?_
                      refine WO.quiet rfl (fun _ hw => ok_load rfl one30 (Kp.cell hw (rd_oval h20c.rd0 hik) (fun f => f))) hS rfl ?_
                      refine WO.loudCall rfl (ok_callF rfl isfn25) rfl (slotTerm rsc[r].sl[i] hokS _) ?_
                      rintro v w236 ⟨rfl, hE236⟩
                      refine ⟨(fun _ => hS.trans hE236), ?_⟩
                      have hS := hS.trans hE236
                      refine WO.loudCall rfl (ok_callF rfl isfn26) rfl (zzTermW l[xb].name l[xb].vl l[xb].va l[xb].vcap (hsm _ (List.getElem_mem hxl)).1 (hsm _ (List.getElem_mem hxl)).2 _ ((hI26.val _ (List.getElem_mem hxl)).ext hS)) ?_
                      rintro v w241 ⟨rfl, hw241⟩
                      have hw241 := hw241.symm
                      subst hw241
                      refine ⟨(fun _ => hS), ?_⟩
                      refine WO.quiet rfl (fun _ _ => ok_neq rfl rfl) hS rfl ?_
                      refine WO.nil ?_
                      refine WX.thenC ?_
                      refine WC.condFb rfl (by rw [hSe]; simp [slotOf]) ?_
                      refine WC.skip ?_
                      refine WX.thenC ?_
                      refine WC.region ?_
                      refine WL.step (ok_move rfl) rfl ?_
                      refine WL.step (ok_add ((sumL ((lens (slots rsc)).take r) + (i + 1) : Nat) : Int) rfl rfl (by omega) (by omega) (by omega)) rfl ?_
                      refine WL.step (ok_assign rfl) rfl ?_
                      refine WL.nil ?_
                      refine WX.blockN ?_
                      refine WX.thenC ?_
                      refine WC.region ?_
                      refine WL.step (ok_move rfl) rfl ?_
                      refine WL.step (ok_add ((i + 1 : Nat) : Int) rfl rfl (by omega) (by omega) (by omega)) rfl ?_
                      refine WL.step (ok_assign rfl) rfl ?_
                      refine WL.nil ?_
                      exact WX.again (i + 1) (by repeat (first | exact trivial | refine ⟨rfl, ?_⟩)) ⟨by omega, (hE67.trans hE726).trans hS⟩ (by omega)
                    ·
                      have hie : i = rsc[r].sl.length := by have := of_decide_eq_false hc186; omega
                      have hpe : sumL ((lens (slots rsc)).take r) + i = sumL ((lens (slots rsc)).take (r + 1)) := by omega
                      rw [hpe]
                      refine WC.exit ?_
                      refine WX.thenE ?_
                      refine WX.thenE ?_
                      refine WX.blockHit ?_
                      refine WX.blockN ?_
                      refine WX.thenC ?_
                      refine WC.region ?_
                      refine WL.step (ok_move rfl) rfl ?_
                      refine WL.step (ok_add ((r + 1 : Nat) : Int) rfl rfl (by omega) (by omega) (by omega)) rfl ?_
                      refine WL.step (ok_assign rfl) rfl ?_
                      refine WL.nil ?_
                      exact WX.again (r + 1) (by repeat (first | exact trivial | refine ⟨rfl, ?_⟩)) ⟨by omega, hE27⟩ (by omega)
                  ·
                    have hge4 : r = rsc.length := by have := of_decide_eq_false hc177; omega
                    have hheld : sumL ((lens (slots rsc)).take r) = q.length := by rw [hge4, sumL_take_all _ _ (by omega), hsmo]
                    refine WC.exit ?_
                    refine WX.thenE ?_
                    refine WX.thenE ?_
                    refine WX.blockHit ?_
                    refine WX.thenC ?_
                    refine WC.seq ?_
                    refine WC.region ?_
                    refine WL.step (ok_move rfl) rfl ?_
                    refine WL.step (ok_move rfl) rfl ?_
                    refine WL.step (ok_lenSlice rfl Try.underlying43) rfl ?_
                    refine WL.step (ok_neq rfl rfl) rfl ?_
                    refine WL.nil ?_
                    refine WX.thenC ?_
                    refine WC.condFb rfl (by rw [hheld]; simp) ?_
                    refine WC.skip ?_
                    refine WX.blockN ?_
                    refine WX.thenC ?_
                    refine WC.region ?_
                    refine WL.step (ok_move rfl) rfl ?_
                    refine WL.step (ok_add ((p + 1 : Nat) : Int) rfl rfl (by omega) (by omega) (by omega)) rfl ?_
                    refine WL.step (ok_assign rfl) rfl ?_
                    refine WL.nil ?_
                    exact WX.again (p + 1) (by repeat (first | exact trivial | refine ⟨rfl, ?_⟩)) ⟨by omega, ((hEp.trans hE2).trans hE8)⟩ (by omega)
          ·
            refine WC.exit ?_
            refine WX.thenE ?_
            refine WX.thenE ?_
            refine WX.blockHit ?_
            refine WX.thenC ?_
            refine WC.seq ?_
            refine WC.region ?_
            refine WL.step (ok_assign rfl) rfl ?_
            refine WL.nil ?_
            refine WX.thenC ?_
            refine WC.ret ?_
            exact WX.ret1 rfl rfl ⟨_, rfl, rfl, hE0.trans hEp⟩

end Go.Proofs.Try
