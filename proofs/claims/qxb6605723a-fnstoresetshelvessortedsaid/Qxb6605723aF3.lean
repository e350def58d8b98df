/- Walk: the law of the store's last write. -/
import Derived.Test.Qxb6605723aW14
set_option linter.unusedVariables false
set_option linter.unusedSimpArgs false
set_option maxRecDepth 100000
namespace Go.Sx
open Go.Pl
theorem put_len {runs : List (List Slot)} (h : Inv runs) (e : Slot) (he : e.key.length = 20) : (putL runs e).flatten.length ≤ runs.flatten.length + 1 := by
  have h1 := congrArg List.length (put_prs h e he).1
  have h2 : (prs (putL runs e)).length = (putL runs e).flatten.length := by unfold prs; rw [List.length_map]
  have h3 : (prs runs).length = runs.flatten.length := by unfold prs; rw [List.length_map]
  rw [h2] at h1
  rw [h1]
  split
  · omega
  · have := congrArg List.length (List.take_append_drop ((prs runs).countP (lt2 · (ps e))) (prs runs))
    simp only [List.length_append, List.length_cons] at this ⊢
    omega
theorem setS_len {nm : Nm} {Sh : Shs} (h : SInv nm Sh) (e : Slot) (he : e.key.length = 20) (c b : Bool) : ((setS nm Sh e c).2 b).flatten.length ≤ (Sh b).flatten.length + 1 := by
  have h1 := (set1_inv h e.name (e.key, c)).1
  have h2 := set1_len h e.name (e.key, c) b
  unfold setS
  by_cases hb : b = c
  · subst hb
    simp only [upd_same]
    have := put_len (h1.inv b) e he
    omega
  · simp only [upd_ne _ _ hb]
    omega
/-- A name as a pair, to count by. -/
def pn (o : OpR) : Pr := ([], o.name.toList)
theorem laterName_iff (l : List OpR) (k : Nat) (hk : k < l.length) : laterName l k = decide (pn l[k] ∈ (l.drop (k + 1)).map pn) := by
  unfold laterName
  rw [List.getElem?_eq_getElem hk, Bool.eq_iff_iff, List.any_eq_true]
  simp only [decide_eq_true_eq, List.mem_map, pn, Prod.mk.injEq, true_and]
theorem ded_dropO (l : List OpR) (k : Nat) (hk : k < l.length) : ded ((l.drop k).map pn) = if laterName l k then ded ((l.drop (k + 1)).map pn) else pn l[k] :: ded ((l.drop (k + 1)).map pn) := by
  rw [laterName_iff l k hk, List.drop_eq_getElem_cons hk, List.map_cons, ded]
  simp
theorem foldl_none {n : ByteArray} {acc : Option OpR} : ∀ (l : List OpR), (∀ o ∈ l, o.name ≠ n) → l.foldl (fun acc o => if o.name = n then some o else acc) acc = acc
  | [], _ => rfl
  | x :: l, h => by
    rw [List.foldl_cons, if_neg (h x (by simp))]
    exact foldl_none l (fun o ho => h o (List.mem_cons_of_mem _ ho))
theorem lastOp_at (l : List OpR) (k : Nat) (hk : k < l.length) (h : laterName l k = false) : lastOp l l[k].name = some l[k] := by
  have hs : l = l.take k ++ l[k] :: l.drop (k + 1) := by rw [List.getElem_cons_drop, List.take_append_drop]
  have hn : ∀ o ∈ l.drop (k + 1), o.name ≠ l[k].name := by
    intro o ho e
    rw [laterName_iff l k hk, decide_eq_false_iff_not] at h
    exact h (List.mem_map.2 ⟨o, ho, by simp [pn, e]⟩)
  obtain ⟨x, hx⟩ : ∃ x, x = l[k] := ⟨_, rfl⟩
  rw [← hx] at hs hn ⊢
  unfold lastOp
  conv => lhs; rw [hs]
  rw [List.foldl_append, List.foldl_cons, if_pos rfl]
  exact foldl_none _ hn
theorem lastOp_some {l : List OpR} {n : ByteArray} (h : ∃ o ∈ l, o.name = n) : ∃ o, lastOp l n = some o := by
  have gen : ∀ (l : List OpR) (acc : Option OpR), ((∃ o ∈ l, o.name = n) ∨ acc.isSome = true) → ∃ o, l.foldl (fun acc o => if o.name = n then some o else acc) acc = some o := by
    intro l
    induction l with
    | nil =>
      rintro acc (⟨o, h, _⟩ | h)
      · simp at h
      · exact Option.isSome_iff_exists.1 h
    | cons x l ih =>
      intro acc h
      rw [List.foldl_cons]
      refine ih _ ?_
      by_cases hx : x.name = n
      · rw [if_pos hx]; exact .inr rfl
      · rw [if_neg hx]
        rcases h with ⟨o, ho, e⟩ | h
        · rcases List.mem_cons.1 ho with rfl | ho
          · exact absurd e hx
          · exact .inl ⟨o, ho, e⟩
        · exact .inr h
  exact gen l none (.inl h)
/-- As many names as there are names with no later same. -/
theorem nm_len {l : List OpR} {nm : Nm} {Sh : Shs} (h : SInv nm Sh) (hc : Cont l nm Sh) : nm.length = (ded (l.map pn)).length := by
  have hp : (nm.map (fun x => (([] : List UInt8), x.1.toList))).Perm (ded (l.map pn)) := by
    refine (List.perm_ext_iff_of_nodup ?_ (ded_nodup _)).2 fun p => ?_
    · rw [show (fun x : ByteArray × List UInt8 × Bool => (([] : List UInt8), x.1.toList)) = (fun n : ByteArray => (([] : List UInt8), n.toList)) ∘ (·.1) from rfl, ← List.map_map]
      refine List.Pairwise.map _ ?_ h.nod
      intro a b hab e
      simp only [Prod.mk.injEq, true_and] at e
      exact hab (ba_toList e)
    · rw [mem_ded, List.mem_map, List.mem_map]
      constructor
      · rintro ⟨x, hx, rfl⟩
        have := (getN_iff h.nod (n := x.1) (v := x.2)).2 hx
        rw [hc.get] at this
        cases hl : lastOp l x.1 with
        | none => rw [hl] at this; cases this
        | some o => exact ⟨o, (lastOp_name hl).2, by simp [pn, (lastOp_name hl).1]⟩
      · rintro ⟨o, ho, rfl⟩
        obtain ⟨o2, ho2⟩ := lastOp_some (l := l) (n := o.name) ⟨o, ho, rfl⟩
        have hg := hc.get o.name
        rw [ho2] at hg
        exact ⟨(o.name, (o2.key, o2.copy)), getN_mem hg, rfl⟩
  have := hp.length_eq
  rwa [List.length_map] at this
theorem slotOf_ent (o : OpR) : (slotOf o).ent = kc o.key ++ [Value.string o.name, .slice o.va o.vl.length o.vcap] := rfl
theorem low_of {lo : Nat} {w : World} {va : Option Addr} {vl : List UInt8} (h : BytL lo w va vl) : ∀ b off, va = some ⟨b, off, none⟩ → vl ≠ [] → b < lo := by
  intro b off e hne
  obtain ⟨b', off', h1, h2, _⟩ := h hne
  rw [e] at h1; cases h1; exact h2
/-- Sets, all of them below lo. -/
structure OpL (lo : Nat) (w : World) (a : Option Addr) (l : List OpR) : Prop where
  row : l ≠ [] → ∃ b off, a = some ⟨b, off, none⟩ ∧ b < lo ∧ Rd w b off (encO l)
  val : ∀ o ∈ l, BytL lo w o.va o.vl
theorem OpsAt.low {w : World} {a : Option Addr} {l : List OpR} (h : OpsAt w a l) (ho : OkO l) : OpL w.heap.size w a l := by
  refine ⟨fun hne => ?_, fun o hm => (h.val o hm).low⟩
  obtain ⟨b, off, h1, h2⟩ := h.row hne
  refine ⟨b, off, h1, ?_, h2⟩
  cases l with
  | nil => exact absurd rfl hne
  | cons x l =>
    have := h2 0 ((encO (x :: l))[0]'(by rw [encO_length ho]; simp)) (List.getElem?_eq_getElem _)
    exact block_lt_of_cell this
theorem OpL.kp {lo : Nat} {w w' : World} {a : Option Addr} {l : List OpR} (h : OpL lo w a l) (k : Kp (fun x => ¬ x < lo) w w') : OpL lo w' a l := by
  refine ⟨fun hne => ?_, fun o hm => (h.val o hm).kp (k.mono (fun x _ q => by omega))⟩
  obtain ⟨b, off, h1, h2, h3⟩ := h.row hne
  exact ⟨b, off, h1, h2, h3.kp k (by omega)⟩
theorem OpL.at {lo : Nat} {w : World} {a : Option Addr} {l : List OpR} (h : OpL lo w a l) : OpsAt w a l := by
  refine ⟨fun hne => ?_, fun o hm => (h.val o hm).at⟩
  obtain ⟨b, off, h1, h2, h3⟩ := h.row hne
  exact ⟨b, off, h1, h3⟩
theorem any_take_succ (l : List OpR) (f : OpR → Bool) (j : Nat) (hj : j < l.length) : (l.take (j + 1)).any f = ((l.take j).any f || f l[j]) := by
  rw [List.take_succ_eq_append_getElem hj, List.any_append]; simp
end Go.Sx
namespace Go.Proofs.Try
open Go.Sx Go.Pl

set_option maxHeartbeats 2000000 in
theorem lawLast (l0 : List OpR) (ho0 : OkO l0) (a : Option Addr) (cap : Nat) (n : ByteArray) (w : World) (hI : OpsAt w a l0) :
    CallsV Try.prog 3 #[.slice a l0.length cap, .string n] w fun v w' => v = .bool true ∧ Ext w w' := by
  refine calls_intro (args := [_, _]) Try.func3 rfl Try.ntmps3 rfl ?_
  refine WC.seq ?_
  refine WC.region ?_
  refine WL.step (ok_assign rfl) rfl ?_
  refine WL.nil ?_
  refine WX.thenC ?_
  refine WC.seq ?_
  refine WC.seq ?_
  refine WC.region ?_
  refine WL.step (ok_move rfl) rfl ?_
  refine WL.step (ok_move rfl) rfl ?_
  refine WL.call (ok_callF rfl isfn9) rfl (bytesSet l0 ho0 a cap n _ hI) ?_
  rintro v w18 ⟨⟨z18, rfl, hz18⟩, hw18⟩
  have hw18 := hw18.symm
  subst hw18
  refine WL.step (ok_not rfl) rfl ?_
  refine WL.nil ?_
  refine WX.thenC ?_
  refine WC.cond rfl (fun hc19 => ?_) (fun hc19 => ?_)
  ·
    refine WC.seq ?_
    refine WC.region ?_
    refine WL.step (ok_assign rfl) rfl ?_
    refine WL.nil ?_
    refine WX.thenC ?_
    refine WC.ret ?_
    refine WX.thenR ?_
    exact WX.ret1 rfl rfl ⟨_, rfl, rfl, Kp.refl _ _⟩
  ·
    have hz := hz18 (by simpa using hc19)
    obtain ⟨hsm0, hnx⟩ := hz
    refine WC.skip ?_
    refine WX.thenC ?_
    refine WC.seq ?_
    refine WC.seq ?_
    refine WC.region ?_
    refine WL.step (ok_move rfl) rfl ?_
    refine WL.step (ok_lenSlice rfl Try.underlying22) rfl ?_
    refine WL.step (ok_gtr rfl rfl) rfl ?_
    refine WL.step (ok_move rfl) rfl ?_
    refine WL.splitB 23 rfl (fun hb23 => ?_) (fun hb23 => ?_)
    ·
      refine WL.off rfl rfl rfl rfl ?_
      refine WL.off rfl rfl rfl rfl ?_
      refine WL.off rfl rfl rfl rfl ?_
      refine WL.step (ok_pickT rfl rfl) rfl ?_
      refine WL.nil ?_
      refine WX.thenC ?_
      refine WC.condTb rfl rfl ?_
      refine WC.seq ?_
      refine WC.region ?_
      refine WL.step (ok_assign rfl) rfl ?_
      refine WL.nil ?_
      refine WX.thenC ?_
      refine WC.ret ?_
      refine WX.thenR ?_
      exact WX.ret1 rfl rfl ⟨_, rfl, rfl, Kp.refl _ _⟩
    ·
      have hn4 : l0.length ≤ 4096 := by have := of_decide_eq_false hb23; omega
      refine WL.on rfl rfl ?_
      refine WL.step (ok_move rfl) rfl ?_
      refine WL.on rfl rfl ?_
      refine WL.step (ok_lenString rfl Try.underlying9) rfl ?_
      refine WL.on rfl rfl ?_
      refine WL.step (ok_gtr rfl rfl) rfl ?_
      refine WL.step (ok_pickF rfl rfl) rfl ?_
      refine WL.nil ?_
      refine WX.thenC ?_
      refine WC.cond rfl (fun hc27 => ?_) (fun hc27 => ?_)
      ·
        refine WC.seq ?_
        refine WC.region ?_
        refine WL.step (ok_assign rfl) rfl ?_
        refine WL.nil ?_
        refine WX.thenC ?_
        refine WC.ret ?_
        refine WX.thenR ?_
        exact WX.ret1 rfl rfl ⟨_, rfl, rfl, Kp.refl _ _⟩
      ·
        refine WC.skip ?_
        refine WX.thenC ?_
        refine WC.seq ?_
        refine WC.seq ?_
        refine WC.region ?_
        refine WL.step (ok_move rfl) rfl ?_
        refine WL.call (ok_callF rfl isfn10) rfl (setsBytes l0 ho0 a cap (by omega) _ hI) ?_
        rintro v w29 ⟨⟨z29, rfl⟩, hE29⟩
        refine WL.step (ok_move rfl) rfl ?_
        refine WL.step (ok_lenString rfl Try.underlying9) rfl ?_
        refine WL.step (ok_addW rfl rfl) rfl ?_
        refine WL.step (ok_gtr rfl rfl) rfl ?_
        refine WL.nil ?_
        refine WX.thenC ?_
        refine WC.cond rfl (fun hc33 => ?_) (fun hc33 => ?_)
        ·
          refine WC.seq ?_
          refine WC.region ?_
          refine WL.step (ok_assign rfl) rfl ?_
          refine WL.nil ?_
          refine WX.thenC ?_
          refine WC.ret ?_
          refine WX.thenR ?_
          exact WX.ret1 rfl rfl ⟨_, rfl, rfl, hE29⟩
        ·
          refine WC.skip ?_
          refine WX.thenC ?_
          refine WC.seq ?_
          refine WC.region ?_
          refine WL.step (ok_move rfl) rfl ?_
          refine WL.call (ok_callF rfl isfn11) rfl (cloneSets l0 ho0 a cap hn4 hsm0 _ (hI.ext hE29)) ?_
          rintro v w35 ⟨a', cap', l, rfl, hll, hsame, hI35, hE35⟩
          have hEw := hE29.trans hE35
          have ho : OkO l := by
            intro o hm
            obtain ⟨i, hi, rfl⟩ := List.mem_iff_getElem.1 hm
            rw [← (hsame i (by omega) hi).1]
            exact ho0 _ (List.getElem_mem _)
          have hsm : ∀ o ∈ l, SmallO o := by
            intro o hm
            obtain ⟨i, hi, rfl⟩ := List.mem_iff_getElem.1 hm
            have hq := hsame i (by omega) hi
            have hp := hsm0 _ (List.getElem_mem (show i < l0.length by omega))
            exact ⟨by rw [← hq.2.1]; exact hp.1, by rw [← hq.2.2.1]; exact hp.2⟩
          rw [← hll] at hn4
          obtain ⟨lo, hlo⟩ : ∃ lo, lo = w35.heap.size := ⟨_, rfl⟩
          have hT := hI35.low ho
          rw [← hlo] at hT
          have hwlo : w.heap.size ≤ lo := by rw [hlo]; exact hEw.size
          refine WL.rew 35 (.slice a' l.length cap') rfl (by rw [hll]) ?_
          refine WL.step (ok_assign rfl) rfl ?_
          refine WL.nil ?_
          refine WX.thenC ?_
          refine WC.seq ?_
          refine WC.region ?_
          refine WL.call (ok_callF rfl isfn12) rfl (newStore _) ?_
          rintro v w36 ⟨stb, rfl, hstb, hS36, hE36⟩
          have hS0 : StoreAt (fun k => k < lo) w36 stb [] (fun _ => []) := by rw [hlo]; exact hS36
          have hT36 : OpL lo w36 a' l := hT.kp (Kp.of_ext hE36)
          have hA36 : ∀ b, b < lo → b < w36.heap.size := fun b hb => by have := hE36.size; omega
          refine WL.step (ok_assign rfl) rfl ?_
          refine WL.nil ?_
          refine WX.thenC ?_
          refine WC.seq ?_
          refine WC.seq ?_
          refine WC.region ?_
          refine WL.step (ok_assign rfl) rfl ?_
          refine WL.nil ?_
          refine WX.thenC ?_
          refine WC.block ?_
          refine WC.loop (fun j : Nat => [(0, .slice a' l.length cap'), (1, .string n), (5, .pointer (some ⟨stb, 0, none⟩)), (6, .int .i64 (j : Nat))])
            (fun j w' => j ≤ l.length ∧ ∃ nm Sh, StoreAt (fun k => k < lo) w' stb nm Sh ∧ SInv nm Sh ∧ Cont (l.take j) nm Sh ∧ (∀ b, (Sh b).flatten.length ≤ j) ∧ Kp (fun x => ¬ x < lo) w36 w') (fun j => l.length - j) 0 (by repeat (first | exact trivial | refine ⟨rfl, ?_⟩)) ?_ ?_
          · exact ⟨by omega, [], fun _ => [], hS0, SInv.nil, by simpa using Cont.nil, fun b => by simp, Kp.refl _ _⟩
          rintro j w2 ⟨hjn, nm, Sh, hSt, hIv, hC, hFl, hK⟩
          have hTb := hT36.kp hK
          have hE0 : Ext w w2 := (hEw.trans hE36).over hK (fun i hi e => by omega)
          refine WC.seq ?_
          refine WC.seq ?_
          refine WC.region ?_
          refine WL.step (ok_move rfl) rfl ?_
          refine WL.step (ok_move rfl) rfl ?_
          refine WL.step (ok_lenSlice rfl Try.underlying22) rfl ?_
          refine WL.step (ok_lss rfl rfl) rfl ?_
          refine WL.nil ?_
          refine WX.thenC ?_
          refine WC.cond rfl (fun hc40 => ?_) (fun hc40 => ?_)
          ·
            have hlt : j < l.length := by have := of_decide_eq_true hc40; omega
            obtain ⟨b, off, rfl, hr⟩ := hTb.at.at hlt
            refine WC.skip ?_
            refine WX.thenC ?_
            refine WC.seq ?_
            refine WC.block ?_
            refine WC.drawE [22] 6 [(0, true), (1, true), (2, true), (3, true), (4, true), (5, true), (6, true), (7, true), (8, true), (9, true), (10, true), (11, true), (12, true), (13, true), (14, true), (15, true), (16, true), (17, true), (18, true), (19, true), (20, true), (21, true), (22, false)] mixed (by kernel_rfl) (fun hS => ?_)
            refine WO.quiet rfl (fun _ _ => ok_move rfl) hS rfl ?_
            refine WO.quiet rfl (fun _ _ => ok_move rfl) hS rfl ?_
            refine WO.quiet rfl (fun _ _ => ok_move rfl) hS rfl ?_
            refine WO.quiet rfl (fun _ _ => ok_indexS _ rfl rfl rfl (by omega) Try.underlying22 sz32) hS rfl ?_
            refine WO.quiet rfl (fun _ _ => ok_field rfl fld32_0) hS rfl ?_
            refine WO.quiet rfl (fun _ hw => ok_loadN rfl agg29 sz29 (by simp [ho _ (List.getElem_mem hlt)]) (Rd.kp (ro_key hr ho j hlt) hw (fun f => f))) hS rfl ?_
            refine WO.quiet rfl (fun _ _ => ok_move rfl) hS rfl ?_
            refine WO.quiet rfl (fun _ _ => ok_move rfl) hS rfl ?_
            refine WO.quiet rfl (fun _ _ => ok_indexS _ rfl rfl rfl (by omega) Try.underlying22 sz32) hS rfl ?_
            refine WO.quiet rfl (fun _ _ => ok_field rfl fld32_1) hS rfl ?_
            refine WO.quiet rfl (fun _ hw => ok_load rfl one9 (Kp.cell hw (ro_name hr ho j hlt) (fun f => f))) hS rfl ?_
            refine WO.quiet rfl (fun _ _ => ok_move rfl) hS rfl ?_
            refine WO.quiet rfl (fun _ _ => ok_move rfl) hS rfl ?_
            refine WO.quiet rfl (fun _ _ => ok_indexS _ rfl rfl rfl (by omega) Try.underlying22 sz32) hS rfl ?_
            refine WO.quiet rfl (fun _ _ => ok_field rfl fld32_2) hS rfl ?_
            refine WO.quiet rfl (fun _ hw => ok_load rfl one30 (Kp.cell hw (ro_val hr ho j hlt) (fun f => f))) hS rfl ?_
            refine WO.quiet rfl (fun _ _ => build35v (ho _ (List.getElem_mem hlt)) rfl rfl rfl) hS rfl ?_
            refine WO.quiet rfl (fun _ _ => ok_move rfl) hS rfl ?_
            refine WO.quiet rfl (fun _ _ => ok_move rfl) hS rfl ?_
            refine WO.quiet rfl (fun _ _ => ok_indexS _ rfl rfl rfl (by omega) Try.underlying22 sz32) hS rfl ?_
            refine WO.quiet rfl (fun _ _ => ok_field rfl fld32_3) hS rfl ?_
            refine WO.quiet rfl (fun _ hw => ok_load rfl one4 (Kp.cell hw (ro_copy hr ho j hlt) (fun f => f))) hS rfl ?_
            refine WO.loudCall rfl (ok_callF rfl isfn13) rfl (storeSet l[j].key l[j].name l[j].vl l[j].va l[j].vcap l[j].copy (ho _ (List.getElem_mem hlt)) (hsm _ (List.getElem_mem hlt)).1 (hsm _ (List.getElem_mem hlt)).2 _ ((hTb.val _ (List.getElem_mem hlt)).at.ext (Kp.drew _ _)) (low_of (hTb.val _ (List.getElem_mem hlt))) (hSt.ext (Kp.drew _ _)) (fun b hb => Nat.lt_of_lt_of_le (hA36 b hb) hK.size) hIv (fun b => Nat.le_trans (hFl b) (by omega))) ?_
            rintro v w65 ⟨rfl, hS65, hK65⟩
            refine ⟨(inL rfl), ?_⟩
            refine WO.nil ?_
            refine WX.blockN ?_
            refine WX.thenC ?_
            refine WC.region ?_
            refine WL.step (ok_move rfl) rfl ?_
            refine WL.step (ok_add ((j + 1 : Nat) : Int) rfl rfl (by omega) (by omega) (by omega)) rfl ?_
            refine WL.step (ok_assign rfl) rfl ?_
            refine WL.nil ?_
            exact WX.again (j + 1) (by repeat (first | exact trivial | refine ⟨rfl, ?_⟩)) ⟨by omega, _, _, hS65, hIv.set _ (ho _ (List.getElem_mem hlt)) _, by rw [List.take_succ_eq_append_getElem hlt]; exact Cont.set hIv hC l[j] (ho _ (List.getElem_mem hlt)), fun b => Nat.le_trans (setS_len hIv _ (ho _ (List.getElem_mem hlt)) _ b) (Nat.succ_le_succ (hFl b)), (hK.trans (Kp.drew _ _)).trans hK65⟩ (by omega)
          ·
            have hge : j = l.length := by have := of_decide_eq_false hc40; omega
            have hC1 : Cont l nm Sh := by rw [hge, List.take_length] at hC; exact hC
            have hdl := ded_length_le (l.map pn)
            rw [List.length_map] at hdl
            have hI1 := hTb.at
            refine WC.exit ?_
            refine WX.thenE ?_
            refine WX.thenE ?_
            refine WX.blockHit ?_
            refine WX.thenC ?_
            refine WC.seq ?_
            refine WC.region ?_
            refine WL.step (ok_assign rfl) rfl ?_
            refine WL.nil ?_
            refine WX.thenC ?_
            refine WC.seq ?_
            refine WC.region ?_
            refine WL.step (ok_assign rfl) rfl ?_
            refine WL.nil ?_
            refine WX.thenC ?_
            refine WC.seq ?_
            refine WC.seq ?_
            refine WC.region ?_
            refine WL.step (ok_assign rfl) rfl ?_
            refine WL.nil ?_
            refine WX.thenC ?_
            refine WC.block ?_
            refine WC.loop (fun x : Nat × Nat => [(0, .slice a' l.length cap'), (1, .string n), (5, .pointer (some ⟨stb, 0, none⟩)), (7, .int .i64 (x.1 : Nat)), (8, .bool ((l.take x.2).any (fun o : OpR => decide (o.name.toList = n.toList)))), (9, .int .i64 (x.2 : Nat))])
              (fun x w' => x.2 ≤ l.length ∧ x.1 ≤ x.2 ∧ x.1 + (ded ((l.drop x.2).map pn)).length = (ded (l.map pn)).length ∧ Ext w2 w') (fun x => l.length - x.2) (0, 0) (by repeat (first | exact trivial | refine ⟨rfl, ?_⟩)) ?_ ?_
            · exact ⟨by simp, by simp, by simp, Kp.refl _ _⟩
            rintro ⟨d, j⟩ w3 ⟨hjn2, hdj1, hdd, hEc⟩
            dsimp only at hjn2 hdj1 hdd hEc
            dsimp only
            refine WC.seq ?_
            refine WC.seq ?_
            refine WC.region ?_
            refine WL.step (ok_move rfl) rfl ?_
            refine WL.step (ok_move rfl) rfl ?_
            refine WL.step (ok_lenSlice rfl Try.underlying22) rfl ?_
            refine WL.step (ok_lss rfl rfl) rfl ?_
            refine WL.nil ?_
            refine WX.thenC ?_
            refine WC.cond rfl (fun hc69 => ?_) (fun hc69 => ?_)
            ·
              have hlt : j < l.length := by have := of_decide_eq_true hc69; omega
              obtain ⟨b, off, rfl, hr⟩ := (hI1.ext hEc).at hlt
              have hdj := ded_dropO l j hlt
              refine WC.skip ?_
              refine WX.thenC ?_
              refine WC.seq ?_
              refine WC.block ?_
              refine WC.cut (fun pb : Bool => [(0, .slice (some ⟨b, off, none⟩) l.length cap'), (1, .string n), (5, .pointer (some ⟨stb, 0, none⟩)), (7, .int .i64 (d : Nat)), (8, .bool pb), (9, .int .i64 (j : Nat))])
                (fun pb w' => pb = (l.take (j + 1)).any (fun o : OpR => decide (o.name.toList = n.toList)) ∧ w' = w3) ?_ ?_
              ·
                refine WC.seq ?_
                refine WC.region ?_
                refine WL.step (ok_move rfl) rfl ?_
                refine WL.step (ok_move rfl) rfl ?_
                refine WL.step (ok_indexS _ rfl rfl rfl (by omega) Try.underlying22 sz32) rfl ?_
                refine WL.step (ok_field rfl fld32_1) rfl ?_
                refine WL.step (ok_load rfl one9 (ro_name hr ho j hlt)) rfl ?_
                refine WL.step (ok_move rfl) rfl ?_
                refine WL.step (ok_eqlS rfl rfl) rfl ?_
                refine WL.nil ?_
                refine WX.thenC ?_
                refine WC.cond rfl (fun hc78 => ?_) (fun hc78 => ?_)
                ·
                  refine WC.region ?_
                  refine WL.step (ok_assign rfl) rfl ?_
                  refine WL.nil ?_
                  exact WX.again true (by repeat (first | exact trivial | refine ⟨rfl, ?_⟩)) ⟨by rw [any_take_succ l _ j hlt, hc78, Bool.or_true], rfl⟩ Nat.zero_lt_one
                ·
                  refine WC.skip ?_
                  exact WX.again _ (by repeat (first | exact trivial | refine ⟨rfl, ?_⟩)) ⟨by rw [any_take_succ l _ j hlt, hc78, Bool.or_false], rfl⟩ Nat.zero_lt_one
              ·
                rintro pb w4 ⟨hpb, hw4⟩
                have hw4 := hw4.symm
                subst hw4
                subst hpb
                refine WC.seq ?_
                refine WC.seq ?_
                refine WC.region ?_
                refine WL.step (ok_move rfl) rfl ?_
                refine WL.step (ok_move rfl) rfl ?_
                refine WL.call (ok_callF rfl isfn14) rfl (laterSameName l ho _ cap' j hlt (by omega) _ (hI1.ext hEc)) ?_
                rintro v w81 ⟨rfl, hE81⟩
                refine WL.nil ?_
                refine WX.thenC ?_
                refine WC.cond rfl (fun hc81 => ?_) (fun hc81 => ?_)
                ·
                  rw [hc81, if_pos rfl] at hdj
                  refine WC.exit ?_
                  refine WX.thenE ?_
                  refine WX.blockHit ?_
                  refine WX.thenC ?_
                  refine WC.region ?_
                  refine WL.step (ok_move rfl) rfl ?_
                  refine WL.step (ok_add ((j + 1 : Nat) : Int) rfl rfl (by omega) (by omega) (by omega)) rfl ?_
                  refine WL.step (ok_assign rfl) rfl ?_
                  refine WL.nil ?_
                  exact WX.again (d, j + 1) (by repeat (first | exact trivial | refine ⟨rfl, ?_⟩)) ⟨by show j + 1 ≤ _; omega, by show d ≤ j + 1; omega, by rw [hdj] at hdd; exact hdd, hEc.trans hE81⟩ (by show _ - (j + 1) < _ - j; omega)
                ·
                  have hls : laterName l j = false := hc81
                  rw [hls, if_neg (by decide)] at hdj
                  refine WC.skip ?_
                  refine WX.thenC ?_
                  refine WC.seq ?_
                  refine WC.region ?_
                  refine WL.step (ok_move rfl) rfl ?_
                  refine WL.step (ok_add ((d + 1 : Nat) : Int) rfl rfl (by omega) (by omega) (by omega)) rfl ?_
                  refine WL.step (ok_assign rfl) rfl ?_
                  refine WL.nil ?_
                  refine WX.thenC ?_
                  refine WC.seq ?_
                  refine WC.region ?_
                  refine WL.step (ok_move rfl) rfl ?_
                  refine WL.step (ok_move rfl) rfl ?_
                  refine WL.step (ok_move rfl) rfl ?_
                  refine WL.step (ok_indexS _ rfl rfl rfl (by omega) Try.underlying22 sz32) rfl ?_
                  refine WL.step (ok_field rfl fld32_1) rfl ?_
                  refine WL.step (ok_load rfl one9 (ro_name (hr.kp hE81 (fun f => f)) ho j hlt)) rfl ?_
                  have hlast := lastOp_at l j hlt hls
                  have hgj : getN nm l[j].name = some (l[j].key, l[j].copy) := by rw [hC1.get, hlast]; rfl
                  refine WL.call (ok_callF rfl isfn15) rfl (storeGetSome l[j].name _ (hSt.ext (hEc.trans hE81)) hIv (fun b => Nat.le_trans (hIv.inv b).len (Nat.le_trans (hFl b) (by omega))) l[j].key l[j].copy hgj) ?_
                  rintro v w91 ⟨⟨S, hSm, hokS, hSp, rfl⟩, hE91⟩
                  have hSe : S = slotOf l[j] := by
                    obtain ⟨o, e1, e2⟩ := hC1.slot _ S hSm
                    have hnm : S.name = l[j].name := ba_toList (congrArg Prod.snd hSp)
                    rw [hnm, hlast] at e1
                    cases e1; exact e2
                  obtain ⟨E, hE⟩ : ∃ E, E = (slotOf l[j]).ent := ⟨_, rfl⟩
                  have helen : E.length = 22 := by rw [hE, slotOf_ent]; simp [ho _ (List.getElem_mem hlt)]
                  refine WL.rew 91 (.tuple #[.agg E.toArray, .bool l[j].copy, .bool true]) rfl (by rw [hSe, hE]) ?_
                  have hEone : ∀ u ∈ E, u.oneCell' = true := by rw [hE, ← hSe]; exact ent_one hokS
                  refine WL.step (ok_move rfl) rfl ?_
                  refine WL.step (ok_extract rfl rfl) rfl ?_
                  refine WL.step (ok_extract rfl rfl) rfl ?_
                  refine WL.step (ok_extract rfl rfl) rfl ?_
                  refine WL.alloc zero35 rfl ?_
                  intro b10 w10 hb10 ho10 hk10 hs10
                  refine WL.store rfl rfl sz35 (ho10) (by simpa [Value.cells] using helen) (by simp [Value.cells, helen]) (by simpa [Value.cells] using hEone) ?_
                  intro wr22 hor22 hkr22 hsr22
                  have h10 : Own wr22 b10 35 (slotOf l[j]).ent := by
                    have h := (show Own wr22 b10 35 (splice _ 0 E) from hor22)
                    rw [splice_all _ _ (by rw [helen]; rfl)] at h
                    rw [← hE]; exact h
                  have hE22 : Ext w3 wr22 := ((hE81.trans hE91).trans hk10).over hkr22 (fun i hi e => by have := hE81.size; have := hE91.size; omega)
                  have hr22 := hr.kp hE22 (fun f => f)
                  have hkj := ho _ (List.getElem_mem hlt)
                  have hI22 := (hI1.ext hEc).ext hE22
                  refine WL.step (ok_assign rfl) rfl ?_
                  refine WL.step (ok_assign rfl) rfl ?_
                  refine WL.nil ?_
                  refine WX.thenC ?_
                  refine WC.seq ?_
                  refine WC.seq ?_
                  refine WC.region ?_
                  refine WL.step (ok_move rfl) rfl ?_
                  refine WL.step (ok_not rfl) rfl ?_
                  refine WL.step (ok_move rfl) rfl ?_
                  refine WL.rew 97 (.bool false) rfl (congrArg Value.bool rfl) ?_
                  refine WL.on rfl rfl ?_
                  refine WL.step (ok_move rfl) rfl ?_
                  refine WL.on rfl rfl ?_
                  refine WL.step (ok_move rfl) rfl ?_
                  refine WL.on rfl rfl ?_
                  refine WL.step (ok_move rfl) rfl ?_
                  refine WL.on rfl rfl ?_
                  refine WL.step (ok_indexS _ rfl rfl rfl (by omega) Try.underlying22 sz32) rfl ?_
                  refine WL.on rfl rfl ?_
                  refine WL.step (ok_field rfl fld32_3) rfl ?_
                  refine WL.on rfl rfl ?_
                  refine WL.step (ok_load rfl one4 (ro_copy hr22 ho j hlt)) rfl ?_
                  refine WL.on rfl rfl ?_
                  refine WL.step (ok_neqBool rfl rfl Try.underlying4) rfl ?_
                  refine WL.step (ok_pickF rfl rfl) rfl ?_
                  refine WL.nil ?_
                  refine WX.thenC ?_
                  refine WC.condFb rfl (by simp) ?_
                  refine WC.skip ?_
                  refine WX.thenC ?_
                  refine WC.seq ?_
                  refine WC.drawE [] 21 [(0, true), (1, true), (2, true), (3, true), (4, true), (5, true), (6, true), (7, false), (8, true), (9, true), (10, true), (11, true), (12, true), (13, true), (14, true), (15, true), (16, true), (17, true), (18, true), (19, true), (20, true), (21, true), (22, true), (23, true), (24, true), (25, true), (26, true), (27, false), (28, true), (29, true)] mixed (by kernel_rfl) (fun hS => ?_)
                  refine WO.quiet rfl (fun _ _ => ok_field rfl fld35_0) hS rfl ?_
                  refine WO.quiet rfl (fun _ hw => ok_loadN rfl agg33 sz33 (by simp [slotOf, hkj]) (Rd.kp (rd_ekey h10.rd0) hw (fun f => f))) hS rfl ?_
                  refine WO.quiet rfl (fun _ _ => ok_move rfl) hS rfl ?_
                  refine WO.quiet rfl (fun _ _ => ok_move rfl) hS rfl ?_
                  refine WO.quiet rfl (fun _ _ => ok_indexS _ rfl rfl rfl (by omega) Try.underlying22 sz32) hS rfl ?_
                  refine WO.quiet rfl (fun _ _ => ok_field rfl fld32_0) hS rfl ?_
                  refine WO.quiet rfl (fun _ hw => ok_loadN rfl agg29 sz29 (by simp [hkj]) (Rd.kp (ro_key hr22 ho j hlt) hw (fun f => f))) hS rfl ?_
                  refine WO.loudCall rfl (ok_callF rfl isfn16) rfl (cmpKey l[j].key l[j].key hkj hkj _) ?_
                  rintro v w113 ⟨rfl, hE113⟩
                  refine ⟨(fun _ => hS.trans hE113), ?_⟩
                  have hS := hS.trans hE113
                  refine WO.quiet rfl (fun _ _ => ok_neq rfl rfl) hS rfl ?_
                  refine WO.quiet rfl (fun _ _ => ok_move rfl) hS rfl ?_
                  refine WO.rew 115 (.bool false) rfl (congrArg Value.bool (by rw [cmpK_self]; rfl)) ?_
                  refine WO.quietOn rfl rfl rfl (fun _ _ => ok_field rfl fld35_1) hS rfl ?_
                  refine WO.quietOn rfl rfl rfl (fun _ hw => ok_load rfl one9 (Kp.cell hw (rd_ename h10.rd0 hkj) (fun f => f))) hS rfl ?_
                  refine WO.quietOn rfl rfl rfl (fun _ _ => ok_move rfl) hS rfl ?_
                  refine WO.quietOn rfl rfl rfl (fun _ _ => ok_move rfl) hS rfl ?_
                  refine WO.quietOn rfl rfl rfl (fun _ _ => ok_indexS _ rfl rfl rfl (by omega) Try.underlying22 sz32) hS rfl ?_
                  refine WO.quietOn rfl rfl rfl (fun _ _ => ok_field rfl fld32_1) hS rfl ?_
                  refine WO.quietOn rfl rfl rfl (fun _ hw => ok_load rfl one9 (Kp.cell hw (ro_name hr22 ho j hlt) (fun f => f))) hS rfl ?_
                  refine WO.quietOn rfl rfl rfl (fun _ _ => ok_neqS rfl rfl) hS rfl ?_
                  refine WO.quiet rfl (fun _ _ => ok_pickF rfl rfl) hS rfl ?_
                  refine WO.quiet rfl (fun _ _ => ok_move rfl) hS rfl ?_
                  refine WO.rew 125 (.bool false) rfl (congrArg Value.bool (by simp [slotOf])) ?_
                  refine WO.quietOn rfl rfl rfl (fun _ _ => ok_field rfl fld35_2) hS rfl ?_
                  refine WO.quietOn rfl rfl rfl (fun _ hw => ok_load rfl one30 (Kp.cell hw (rd_eval h10.rd0 hkj) (fun f => f))) hS rfl ?_
                  refine WO.quietOn rfl rfl rfl (fun _ _ => ok_move rfl) hS rfl ?_
                  refine WO.quietOn rfl rfl rfl (fun _ _ => ok_move rfl) hS rfl ?_
                  refine WO.quietOn rfl rfl rfl (fun _ _ => ok_indexS _ rfl rfl rfl (by omega) Try.underlying22 sz32) hS rfl ?_
                  refine WO.quietOn rfl rfl rfl (fun _ _ => ok_field rfl fld32_2) hS rfl ?_
                  refine WO.quietOn rfl rfl rfl (fun _ hw => ok_load rfl one30 (Kp.cell hw (ro_val hr22 ho j hlt) (fun f => f))) hS rfl ?_
                  refine WO.loudCallOn rfl rfl rfl (ok_callF rfl isfn17) rfl (bytesSame l[j].vl l[j].va l[j].va l[j].vcap l[j].vcap (hsm _ (List.getElem_mem hlt)).2 _ ((hI22.val _ (List.getElem_mem hlt)).ext hS) ((hI22.val _ (List.getElem_mem hlt)).ext hS)) ?_
                  rintro v w133 ⟨rfl, hE133⟩
                  refine ⟨(fun _ => hS.trans hE133), ?_⟩
                  have hS := hS.trans hE133
                  refine WO.quietOn rfl rfl rfl (fun _ _ => ok_not rfl) hS rfl ?_
                  refine WO.quiet rfl (fun _ _ => ok_pickF rfl rfl) hS rfl ?_
                  refine WO.nil ?_
                  refine WX.thenC ?_
                  refine WC.condFb rfl rfl ?_
                  refine WC.skip ?_
                  refine WX.blockN ?_
                  refine WX.thenC ?_
                  refine WC.region ?_
                  refine WL.step (ok_move rfl) rfl ?_
                  refine WL.step (ok_add ((j + 1 : Nat) : Int) rfl rfl (by omega) (by omega) (by omega)) rfl ?_
                  refine WL.step (ok_assign rfl) rfl ?_
                  refine WL.nil ?_
                  exact WX.again (d + 1, j + 1) (by repeat (first | exact trivial | refine ⟨rfl, ?_⟩)) ⟨by show j + 1 ≤ _; omega, by show d + 1 ≤ j + 1; omega, cntLen hdj hdd, (hEc.trans hE22).trans hS⟩ (by show _ - (j + 1) < _ - j; omega)
            ·
              have hge2 : j = l.length := by have := of_decide_eq_false hc69; omega
              have hd2 : nm.length = d := by rw [nm_len hIv hC1]; rw [hge2, List.drop_length] at hdd; simpa [ded] using hdd.symm
              refine WC.exit ?_
              refine WX.thenE ?_
              refine WX.thenE ?_
              refine WX.blockHit ?_
              refine WX.thenC ?_
              refine WC.seq ?_
              refine WC.seq ?_
              refine WC.region ?_
              refine WL.step (ok_move rfl) rfl ?_
              refine WL.call (ok_callF rfl isfn18) rfl (storeSize _ (hSt.ext hEc)) ?_
              rintro v w137 ⟨rfl, hw137⟩
              subst hw137
              refine WL.step (ok_move rfl) rfl ?_
              refine WL.step (ok_neq rfl rfl) rfl ?_
              refine WL.nil ?_
              refine WX.thenC ?_
              refine WC.condFb rfl (by rw [hd2]; simp) ?_
              refine WC.skip ?_
              refine WX.thenC ?_
              refine WC.seq ?_
              refine WC.seq ?_
              refine WC.region ?_
              refine WL.step (ok_move rfl) rfl ?_
              refine WL.step (ok_not rfl) rfl ?_
              refine WL.nil ?_
              refine WX.thenC ?_
              refine WC.cond rfl (fun hc141 => ?_) (fun hc141 => ?_)
              ·
                have hpn : (l.take j).any (fun o : OpR => decide (o.name.toList = n.toList)) = false := by simpa using hc141
                have hgp : getN nm n = none := by
                  rw [hC1.get]
                  cases hq : lastOp l n with
                  | none => rfl
                  | some o =>
                    obtain ⟨q1, q2⟩ := lastOp_name hq
                    rw [hge2, List.take_length, List.any_eq_false] at hpn
                    exact absurd (by rw [q1]; simp) (hpn o q2)
                refine WC.seq ?_
                refine WC.region ?_
                refine WL.step (ok_move rfl) rfl ?_
                refine WL.step (ok_move rfl) rfl ?_
                refine WL.call (ok_callF rfl isfn15) rfl (storeGetNone n _ (hSt.ext hEc) hgp) ?_
                rintro v w145 ⟨rfl, hE145⟩
                refine WL.step (ok_move rfl) rfl ?_
                refine WL.step (ok_extract rfl rfl) rfl ?_
                refine WL.step (ok_extract rfl rfl) rfl ?_
                refine WL.step (ok_extract rfl rfl) rfl ?_
                refine WL.alloc zero35 rfl ?_
                intro b13 w13 hb13 ho13 hk13 hs13
                refine WL.store rfl rfl sz35 (ho13) rfl (by decide) (zslot_one' rfl) ?_
                intro wr30 hor30 hkr30 hsr30
                refine WL.step (ok_assign rfl) rfl ?_
                refine WL.step (ok_assign rfl) rfl ?_
                refine WL.nil ?_
                refine WX.thenC ?_
                refine WC.seq ?_
                refine WC.region ?_
                refine WL.step (ok_move rfl) rfl ?_
                refine WL.step (ok_move rfl) rfl ?_
                refine WL.rew 150 (.bool false) rfl (congrArg Value.bool rfl) ?_
                refine WL.on rfl rfl ?_
                refine WL.step (ok_move rfl) rfl ?_
                refine WL.step (ok_pickF rfl rfl) rfl ?_
                refine WL.nil ?_
                refine WX.thenC ?_
                refine WC.condFb rfl rfl ?_
                refine WC.skip ?_
                refine WX.thenC ?_
                refine WC.seq ?_
                refine WC.region ?_
                refine WL.step (ok_assign rfl) rfl ?_
                refine WL.nil ?_
                refine WX.thenC ?_
                refine WC.ret ?_
                exact WX.ret1 rfl rfl ⟨_, rfl, rfl, (((hE0.trans hEc).trans hE145).trans hk13).over hkr30 (fun i hi e => by have := hE0.size; have := hEc.size; have := hE145.size; omega)⟩
              ·
                refine WC.skip ?_
                refine WX.thenC ?_
                refine WC.seq ?_
                refine WC.region ?_
                refine WL.step (ok_assign rfl) rfl ?_
                refine WL.nil ?_
                refine WX.thenC ?_
                refine WC.ret ?_
                exact WX.ret1 rfl rfl ⟨_, rfl, rfl, hE0.trans hEc⟩

end Go.Proofs.Try
