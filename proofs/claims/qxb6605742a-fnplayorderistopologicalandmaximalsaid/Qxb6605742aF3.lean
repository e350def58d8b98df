/- Walk: the law that the order is topological and maximal. -/
import Derived.Test.Qxb6605742aF4
set_option linter.unusedVariables false
set_option linter.unusedSimpArgs false
set_option maxRecDepth 100000
namespace Go.Sx
open Go.Po
theorem ic_set0 (p : List Int) (b : Nat) (v : Int) (hb : b < p.length) : splice (ic p) (0 + b * 1) [.int .i64 v] = ic (p.set b v) := by
  have := ic_set p b v [] hb
  simpa using this
/-- Where each step stands among the first k of the order. -/
def PosI (o : List Nat) (n k : Nat) (P : List Int) : Prop :=
  P.length = n ∧ ∀ i (h : i < P.length), (P[i] = -1 ∧ i ∉ o.take k) ∨ ∃ p : Nat, p < k ∧ o[p]? = some i ∧ P[i] = (p : Int)
theorem PosI.start (o : List Nat) (n : Nat) : PosI o n 0 (List.replicate n (-1)) := ⟨by simp, fun i h => .inl ⟨by simp, by simp⟩⟩
theorem nodup_at {o : List Nat} (hd : o.Nodup) {p q i : Nat} (hp : o[p]? = some i) (hq : o[q]? = some i) : p = q := by
  obtain ⟨h1, e1⟩ := List.getElem?_eq_some_iff.1 hp
  obtain ⟨h2, e2⟩ := List.getElem?_eq_some_iff.1 hq
  exact (List.getElem_inj hd).1 (e1.trans e2.symm)
theorem PosI.fresh {o : List Nat} {n k : Nat} {P : List Int} (h : PosI o n k P) (hd : o.Nodup) {i : Nat} (hk : o[k]? = some i) (hi : i < P.length) : P[i] = -1 := by
  rcases h.2 i hi with h | ⟨p, hp, h1, _⟩
  · exact h.1
  · have := nodup_at hd h1 hk; omega
theorem PosI.step {o : List Nat} {n k : Nat} {P : List Int} (h : PosI o n k P) {i : Nat} (hk : o[k]? = some i) (hi : i < P.length) : PosI o n (k + 1) (P.set i (k : Int)) := by
  refine ⟨by simp [h.1], fun m hm => ?_⟩
  have hm' : m < P.length := by simpa using hm
  by_cases e : i = m
  · subst e
    exact .inr ⟨k, by omega, hk, by simp⟩
  · rw [List.getElem_set_ne e]
    obtain ⟨hkl, hke⟩ := List.getElem?_eq_some_iff.1 hk
    rcases h.2 m hm' with h | ⟨p, hp, h1, h2⟩
    · refine .inl ⟨h.1, ?_⟩
      rw [List.take_succ_eq_append_getElem hkl, List.mem_append, hke]
      rintro (q | q)
      · exact h.2 q
      · simp at q; exact e q.symm
    · exact .inr ⟨p, by omega, h1, h2⟩
theorem mem_take_at {o : List Nat} {x p : Nat} (h : x ∈ o.take p) : ∃ q, q < p ∧ o[q]? = some x := by
  obtain ⟨q, hq, e⟩ := List.mem_iff_getElem.1 h
  rw [List.getElem_take] at e
  rw [List.length_take] at hq
  exact ⟨q, by omega, by rw [List.getElem?_eq_getElem (show q < o.length by omega), e]⟩
theorem PosI.earl {l : List Stp} {o : List Nat} {k : Nat} {P : List Int} (h : PosI o l.length k P) (hP : Played (lkL l) l.length o) (hk : o.length ≤ k) (hin : ∀ s ∈ l, ∀ j ∈ s.js, j < l.length) {i : Nat} (hi : i < l.length) (hiP : i < P.length) (h0 : 0 ≤ P[i]) {j : Int} (hj : j ∈ l[i].js) : Sx.earl P j P[i] = true := by
  unfold Sx.earl
  by_cases hneg : j < 0
  · rw [decide_eq_true hneg, Bool.true_or]
  · have hjn := hin _ (List.getElem_mem hi) j hj
    have hxl : j.toNat < P.length := by rw [h.1]; omega
    have hx : j.toNat ∈ lkOf (lkL l) i := by
      rw [lkOf_lkL l i hi, mem_lks]
      have : ((j.toNat : Nat) : Int) = j := by omega
      rw [this]; exact hj
    rcases h.2 i hiP with q | ⟨p, hp, h1, h2⟩
    · rw [q.1] at h0; omega
    · obtain ⟨q, hq, hqe⟩ := mem_take_at (hP.top p i h1 _ hx)
      rcases h.2 _ hxl with r | ⟨p', hp', h1', h2'⟩
      · exact absurd (by rw [List.take_of_length_le hk]; exact List.mem_of_getElem? hqe) r.2
      · have := nodup_at hP.nd h1' hqe
        subst this
        rw [getD_int P _ hxl, h2, h2', decide_eq_false hneg]
        simp
        omega
theorem PosI.unpl {l : List Stp} {o : List Nat} {k : Nat} {P : List Int} (h : PosI o l.length k P) (hP : Played (lkL l) l.length o) (hk : o.length ≤ k) (hin : ∀ s ∈ l, ∀ j ∈ s.js, j < l.length) {i : Nat} (hi : i < l.length) (hiP : i < P.length) (h0 : ¬ 0 ≤ P[i]) : l[i].js.any (Sx.unpl P) = true := by
  have hno : i ∉ o := by
    rcases h.2 i hiP with q | ⟨p, hp, h1, h2⟩
    · have := q.2; rw [List.take_of_length_le hk] at this; exact this
    · rw [h2] at h0; omega
  obtain ⟨x, hx, hxo⟩ := hP.max i hi hno
  rw [lkOf_lkL l i hi, mem_lks] at hx
  refine List.any_eq_true.2 ⟨(x : Int), hx, ?_⟩
  have hxn := hin _ (List.getElem_mem hi) _ hx
  have hxl : x < P.length := by rw [h.1]; omega
  unfold Sx.unpl
  rw [Int.toNat_natCast, getD_int P x hxl]
  rcases h.2 x hxl with q | ⟨p, hp, h1, h2⟩
  · rw [q.1]; simp
  · exact absurd (List.mem_of_getElem? h1) hxo
theorem any_take_succI (l : List Int) (f : Int → Bool) (j : Nat) (hj : j < l.length) : (l.take (j + 1)).any f = ((l.take j).any f || f l[j]) := by
  rw [List.take_succ_eq_append_getElem hj, List.any_append]; simp
end Go.Sx
namespace Go.Proofs.Try
open Go.Sx Go.Po
theorem earlierN (P : List Int) (n : Nat) (hn : P.length = n) (j at_ : Int) (hj : j < n) (pb cap : Nat) (w : World) (hr : Rd w pb 0 (ic P)) :
    CallsV Try.prog 14 #[.int .i64 j, .slice (some ⟨pb, 0, none⟩) n cap, .int .i64 at_] w fun v w' => v = .bool (earl P j at_) ∧ w' = w := by
  subst hn; exact earlier P j at_ hj pb cap w hr
theorem unplayedN (P : List Int) (n : Nat) (hn : P.length = n) (j : Int) (hj : j < n) (pb cap : Nat) (w : World) (hr : Rd w pb 0 (ic P)) :
    CallsV Try.prog 15 #[.int .i64 j, .slice (some ⟨pb, 0, none⟩) n cap] w fun v w' => v = .bool (unpl P j) ∧ w' = w := by
  subst hn; exact unplayed P j hj pb cap w hr

set_option maxHeartbeats 2000000 in
theorem lawTop (l0 : List Stp) (a : Option Addr) (cap : Nat) (w : World) (hI : StpsAt w a l0) :
    CallsV Try.prog 3 #[.slice a l0.length cap] w fun v w' => v = .bool true ∧ Ext w w' := by
  refine calls_intro (args := [_]) Try.func3 rfl Try.ntmps3 rfl ?_
  refine WC.seq ?_
  refine WC.region ?_
  refine WL.step (ok_assign rfl) rfl ?_
  refine WL.nil ?_
  refine WX.thenC ?_
  refine WC.seq ?_
  refine WC.seq ?_
  refine WC.region ?_
  refine WL.step (ok_move rfl) rfl ?_
  refine WL.call (ok_callF rfl isfn8) rfl (bytesTop l0 a cap _ hI) ?_
  rintro v wb ⟨⟨zb, rfl⟩, hwb⟩
  have hwb := hwb.symm
  subst hwb
  refine WL.step (ok_not rfl) rfl ?_
  refine WL.nil ?_
  refine WX.thenC ?_
  refine WC.cond rfl (fun hc21 => ?_) (fun hc21 => ?_)
  ·
    refine WC.seq ?_
    refine WC.region ?_
    refine WL.step (ok_assign rfl) rfl ?_
    refine WL.nil ?_
    refine WX.thenC ?_
    refine WC.ret ?_
    refine WX.thenR ?_
    exact WX.ret1 rfl rfl ⟨_, rfl, rfl, Kp.refl _ _⟩
  ·
    refine WC.skip ?_
    refine WX.thenC ?_
    refine WC.seq ?_
    refine WC.seq ?_
    refine WC.region ?_
    refine WL.step (ok_move rfl) rfl ?_
    refine WL.step (ok_lenSlice rfl Try.underlying22) rfl ?_
    refine WL.step (ok_gtr rfl rfl) rfl ?_
    refine WL.nil ?_
    refine WX.thenC ?_
    refine WC.cond rfl (fun hc24 => ?_) (fun hc24 => ?_)
    ·
      refine WC.seq ?_
      refine WC.region ?_
      refine WL.step (ok_assign rfl) rfl ?_
      refine WL.nil ?_
      refine WX.thenC ?_
      refine WC.ret ?_
      refine WX.thenR ?_
      exact WX.ret1 rfl rfl ⟨_, rfl, rfl, Kp.refl _ _⟩
    ·
      refine WC.skip ?_
      refine WX.thenC ?_
      refine WC.seq ?_
      refine WC.seq ?_
      refine WC.region ?_
      refine WL.step (ok_move rfl) rfl ?_
      refine WL.call (ok_callF rfl isfn9) rfl (tooBig l0 a cap _ hI) ?_
      rintro v wt ⟨⟨zt, rfl, hzt⟩, hwt⟩
      have hwt := hwt.symm
      subst hwt
      refine WL.nil ?_
      refine WX.thenC ?_
      refine WC.cond rfl (fun hc26 => ?_) (fun hc26 => ?_)
      ·
        refine WC.seq ?_
        refine WC.region ?_
        refine WL.step (ok_assign rfl) rfl ?_
        refine WL.nil ?_
        refine WX.thenC ?_
        refine WC.ret ?_
        refine WX.thenR ?_
        exact WX.ret1 rfl rfl ⟨_, rfl, rfl, Kp.refl _ _⟩
      ·
        obtain ⟨hn0, hc0⟩ := hzt hc26
        have hsm0 : ∀ s ∈ l0, s.cl.length ≤ 1048576 := fun s hs => by have := mem_cites hs; omega
        refine WC.skip ?_
        refine WX.thenC ?_
        refine WC.seq ?_
        refine WC.seq ?_
        refine WC.region ?_
        refine WL.step (ok_move rfl) rfl ?_
        refine WL.call (ok_callF rfl isfn10) rfl (linksIn l0 a cap hn0 hsm0 _ hI) ?_
        rintro v wl ⟨⟨zl, rfl, hzl⟩, hwl⟩
        have hwl := hwl.symm
        subst hwl
        refine WL.step (ok_not rfl) rfl ?_
        refine WL.nil ?_
        refine WX.thenC ?_
        refine WC.cond rfl (fun hc29 => ?_) (fun hc29 => ?_)
        ·
          refine WC.seq ?_
          refine WC.region ?_
          refine WL.step (ok_assign rfl) rfl ?_
          refine WL.nil ?_
          refine WX.thenC ?_
          refine WC.ret ?_
          refine WX.thenR ?_
          exact WX.ret1 rfl rfl ⟨_, rfl, rfl, Kp.refl _ _⟩
        ·
          have hin0 := hzl (by simpa using hc29)
          refine WC.skip ?_
          refine WX.thenC ?_
          refine WC.seq ?_
          refine WC.region ?_
          refine WL.step (ok_move rfl) rfl ?_
          refine WL.call (ok_callF rfl isfn11) rfl (copySteps l0 a cap hn0 hsm0 _ hI) ?_
          rintro v wc ⟨a', cap', l, rfl, hll, hsame, hIc, hEc⟩
          have hn : l.length ≤ 65536 := by omega
          have hcl : 48 * l.length + 8 * cites l ≤ 1048576 := by rw [same_cites hll hsame, hll]; exact hc0
          have hin := same_in hll hsame hin0
          have hsm : ∀ s ∈ l, s.cl.length ≤ 1048576 := fun s hs => by have := mem_cites hs; omega
          refine WL.rew 31 (.slice a' l.length cap') rfl (by rw [hll]) ?_
          refine WL.step (ok_assign rfl) rfl ?_
          refine WL.nil ?_
          refine WX.thenC ?_
          refine WC.seq ?_
          refine WC.region ?_
          refine WL.step (ok_move rfl) rfl ?_
          refine WL.call (ok_callF rfl isfn12) rfl (splitSteps l a' cap' hn _ hIc) ?_
          rintro v wsp ⟨bk, bp, bs, bc, rfl, hbk, hbp, hbs, hbc, hEs⟩
          refine WL.step (ok_move rfl) rfl ?_
          refine WL.step (ok_extract rfl rfl) rfl ?_
          refine WL.step (ok_extract rfl rfl) rfl ?_
          refine WL.step (ok_extract rfl rfl) rfl ?_
          refine WL.step (ok_extract rfl rfl) rfl ?_
          refine WL.step (ok_assign rfl) rfl ?_
          refine WL.step (ok_assign rfl) rfl ?_
          refine WL.step (ok_assign rfl) rfl ?_
          refine WL.step (ok_assign rfl) rfl ?_
          refine WL.nil ?_
          refine WX.thenC ?_
          refine WC.seq ?_
          refine WC.region ?_
          refine WL.step (ok_move rfl) rfl ?_
          refine WL.step (ok_move rfl) rfl ?_
          refine WL.step (ok_move rfl) rfl ?_
          refine WL.step (ok_move rfl) rfl ?_
          refine WL.call (ok_callF rfl isfn13) rfl (zzPlay l hn hcl hin bk bp bs bc _ hbk hbp hbs hbc (fun s hs => (hIc.val s hs).ext hEs)) ?_
          rintro v wpl ⟨o, va, cv, rfl, hOo, hPl, hEo⟩
          have hE0 : Ext w wpl := (hEc.trans hEs).trans hEo
          have hI0 := (hIc.ext hEs).ext hEo
          have hol := hPl.len
          refine WL.step (ok_assign rfl) rfl ?_
          refine WL.nil ?_
          refine WX.thenC ?_
          refine WC.seq ?_
          refine WC.region ?_
          refine WL.step (ok_move rfl) rfl ?_
          refine WL.step (ok_lenSlice rfl Try.underlying22) rfl ?_
          refine WL.step (ok_assign rfl) rfl ?_
          refine WL.nil ?_
          refine WX.thenC ?_
          refine WC.seq ?_
          refine WC.seq ?_
          refine WC.region ?_
          refine WL.step (ok_move rfl) rfl ?_
          refine WL.step (ok_lenSlice rfl Try.underlying25) rfl ?_
          refine WL.step (ok_move rfl) rfl ?_
          refine WL.step (ok_gtr rfl rfl) rfl ?_
          refine WL.nil ?_
          refine WX.thenC ?_
          refine WC.condFb rfl (decide_eq_false (by omega)) ?_
          refine WC.skip ?_
          refine WX.thenC ?_
          refine WC.seq ?_
          refine WC.region ?_
          refine WL.step (ok_move rfl) rfl ?_
          refine WL.make (l.length) elt25 rfl (by omega) (by omega) rfl ?_
          intro b51 w51 c51 hb51 ho51 hl51 hz51 hk51 hs51
          refine WL.step (ok_assign rfl) rfl ?_
          refine WL.nil ?_
          refine WX.thenC ?_
          refine WC.seq ?_
          refine WC.seq ?_
          refine WC.region ?_
          refine WL.step (ok_assign rfl) rfl ?_
          refine WL.nil ?_
          refine WX.thenC ?_
          refine WC.block ?_
          refine WC.loop (fun i : Nat => [(0, .slice a' l.length cap'), (7, .slice va o.length cv), (8, .int .i64 (l.length : Nat)), (9, .slice (some ⟨b51, 0, none⟩) l.length l.length), (10, .int .i64 (i : Nat))])
            (fun i w' => i ≤ l.length ∧ Ext wpl w' ∧ ∃ rest, Own w' b51 3 (ic (List.replicate i (-1)) ++ rest) ∧ rest.length = l.length - i) (fun i => l.length - i) 0 (by repeat (first | exact trivial | refine ⟨rfl, ?_⟩)) ?_ ?_
          · exact ⟨by omega, hk51, c51, by simpa [ic] using ho51, by simpa using hl51⟩
          rintro i w1 ⟨hin1, hE, rest, hO, hrest⟩
          refine WC.seq ?_
          refine WC.seq ?_
          refine WC.region ?_
          refine WL.step (ok_move rfl) rfl ?_
          refine WL.step (ok_move rfl) rfl ?_
          refine WL.step (ok_lss rfl rfl) rfl ?_
          refine WL.nil ?_
          refine WX.thenC ?_
          refine WC.cond rfl (fun hc54 => ?_) (fun hc54 => ?_)
          ·
            have hlt : i < l.length := by have := of_decide_eq_true hc54; omega
            refine WC.skip ?_
            refine WX.thenC ?_
            refine WC.seq ?_
            refine WC.block ?_
            refine WC.region ?_
            refine WL.step (ok_move rfl) rfl ?_
            refine WL.step (ok_move rfl) rfl ?_
            refine WL.step (ok_indexS i rfl rfl rfl (by omega) Try.underlying25 sz3) rfl ?_
            refine WL.store rfl rfl sz3 (hO) (by simp [Value.cells]) (by simp [Value.cells]; omega) (by simp [Value.cells, Value.oneCell']) ?_
            intro wr19 hor19 hkr19 hsr19
            have h19 : Own wr19 b51 3 (ic (List.replicate (i + 1) (-1)) ++ rest.drop 1) := by
              have h0 := hor19
              simp only [Value.cells] at h0
              rw [splice_mid _ _ _ _ (by simp)] at h0
              rw [List.replicate_succ', ic_append]
              exact h0
            have hE19 : Ext wpl wr19 := hE.over hkr19 (fun i hi e => by omega)
            refine WL.nil ?_
            refine WX.blockN ?_
            refine WX.thenC ?_
            refine WC.region ?_
            refine WL.step (ok_move rfl) rfl ?_
            refine WL.step (ok_add ((i + 1 : Nat) : Int) rfl rfl (by omega) (by omega) (by omega)) rfl ?_
            refine WL.step (ok_assign rfl) rfl ?_
            refine WL.nil ?_
            exact WX.again (i + 1) (by repeat (first | exact trivial | refine ⟨rfl, ?_⟩)) ⟨by omega, hE19, rest.drop 1, h19, by simp [hrest]; omega⟩ (by omega)
          ·
            have hge : i = l.length := by have := of_decide_eq_false hc54; omega
            have hr0 : rest = [] := List.eq_nil_of_length_eq_zero (by omega)
            rw [hr0, List.append_nil, hge] at hO
            refine WC.exit ?_
            refine WX.thenE ?_
            refine WX.thenE ?_
            refine WX.blockHit ?_
            refine WX.thenC ?_
            refine WC.seq ?_
            refine WC.seq ?_
            refine WC.region ?_
            refine WL.step (ok_assign rfl) rfl ?_
            refine WL.nil ?_
            refine WX.thenC ?_
            refine WC.block ?_
            refine WC.loop (fun k : Nat => [(0, .slice a' l.length cap'), (7, .slice va o.length cv), (8, .int .i64 (l.length : Nat)), (9, .slice (some ⟨b51, 0, none⟩) l.length l.length), (11, .int .i64 (k : Nat))])
              (fun k w' => Ext wpl w' ∧ ∃ P, PosI o l.length k P ∧ Own w' b51 3 (ic P)) (fun k => o.length - k) 0 (by repeat (first | exact trivial | refine ⟨rfl, ?_⟩)) ?_ ?_
            · exact ⟨hE, _, PosI.start o l.length, hO⟩
            rintro k w2 ⟨hE2, P, hPo, hOP⟩
            refine WC.seq ?_
            refine WC.seq ?_
            refine WC.region ?_
            refine WL.step (ok_move rfl) rfl ?_
            refine WL.step (ok_move rfl) rfl ?_
            refine WL.step (ok_lenSlice rfl Try.underlying25) rfl ?_
            refine WL.step (ok_lss rfl rfl) rfl ?_
            refine WL.nil ?_
            refine WX.thenC ?_
            refine WC.cond rfl (fun hc63 => ?_) (fun hc63 => ?_)
            ·
              have hk : k < o.length := by have := of_decide_eq_true hc63; omega
              obtain ⟨ob, rfl, hRo⟩ := hOo (fun e => by rw [e] at hk; simp at hk)
              obtain ⟨i, hi⟩ : ∃ i, i = o[k] := ⟨_, rfl⟩
              have hil : i < l.length := by rw [hi]; exact hPl.lt _ (List.getElem_mem hk)
              have hco : w2.cell? ⟨ob, 0 + k * 1, none⟩ = some (.int .i64 (i : Nat)) := by rw [hi]; exact rd_nat (hRo.kp hE2 (fun f => f)) k hk
              have hoi : o[k]? = some i := by rw [hi]; exact List.getElem?_eq_getElem hk
              have hiP : i < P.length := by rw [hPo.1]; exact hil
              have hcP : w2.cell? ⟨b51, 0 + i * 1, none⟩ = some (.int .i64 (-1)) := by rw [rd_int hOP.rd0 i hiP, hPo.fresh hPl.nd hoi hiP]
              have hpl : P.length = l.length := hPo.1
              refine WC.skip ?_
              refine WX.thenC ?_
              refine WC.seq ?_
              refine WC.block ?_
              refine WC.seq ?_
              refine WC.region ?_
              refine WL.step (ok_move rfl) rfl ?_
              refine WL.step (ok_move rfl) rfl ?_
              refine WL.step (ok_indexS k rfl rfl rfl (by omega) Try.underlying25 sz3) rfl ?_
              refine WL.step (ok_load rfl one3 (hco)) rfl ?_
              refine WL.step (ok_assign rfl) rfl ?_
              refine WL.nil ?_
              refine WX.thenC ?_
              refine WC.seq ?_
              refine WC.seq ?_
              refine WC.region ?_
              refine WL.step (ok_move rfl) rfl ?_
              refine WL.step (ok_lss rfl rfl) rfl ?_
              refine WL.step (ok_move rfl) rfl ?_
              refine WL.rew 72 (.bool false) rfl (congrArg Value.bool (decide_eq_false (by omega))) ?_
              refine WL.on rfl rfl ?_
              refine WL.step (ok_move rfl) rfl ?_
              refine WL.on rfl rfl ?_
              refine WL.step (ok_move rfl) rfl ?_
              refine WL.on rfl rfl ?_
              refine WL.step (ok_geq rfl rfl) rfl ?_
              refine WL.step (ok_pickF rfl rfl) rfl ?_
              refine WL.step (ok_move rfl) rfl ?_
              refine WL.rew 77 (.bool false) rfl (congrArg Value.bool (decide_eq_false (by omega))) ?_
              refine WL.on rfl rfl ?_
              refine WL.step (ok_move rfl) rfl ?_
              refine WL.on rfl rfl ?_
              refine WL.step (ok_move rfl) rfl ?_
              refine WL.on rfl rfl ?_
              refine WL.step (ok_indexS i rfl rfl rfl (by omega) Try.underlying25 sz3) rfl ?_
              refine WL.on rfl rfl ?_
              refine WL.step (ok_load rfl one3 (hcP)) rfl ?_
              refine WL.on rfl rfl ?_
              refine WL.step (ok_geq rfl rfl) rfl ?_
              refine WL.step (ok_pickF rfl rfl) rfl ?_
              refine WL.nil ?_
              refine WX.thenC ?_
              refine WC.condFb rfl (by decide) ?_
              refine WC.skip ?_
              refine WX.thenC ?_
              refine WC.region ?_
              refine WL.step (ok_move rfl) rfl ?_
              refine WL.step (ok_move rfl) rfl ?_
              refine WL.step (ok_move rfl) rfl ?_
              refine WL.step (ok_indexS i rfl rfl rfl (by omega) Try.underlying25 sz3) rfl ?_
              refine WL.store rfl rfl sz3 (hOP) (by simp [Value.cells]) (by simp [Value.cells]; omega) (by simp [Value.cells, Value.oneCell']) ?_
              intro wr26 hor26 hkr26 hsr26
              have h26 : Own wr26 b51 3 (ic (P.set i (k : Int))) := by
                have h0 := hor26
                simp only [Value.cells] at h0
                rw [← ic_set0 P i (k : Int) hiP]
                exact h0
              have hE26 : Ext wpl wr26 := hE2.over hkr26 (fun i hi e => by omega)
              refine WL.nil ?_
              refine WX.blockN ?_
              refine WX.thenC ?_
              refine WC.region ?_
              refine WL.step (ok_move rfl) rfl ?_
              refine WL.step (ok_add ((k + 1 : Nat) : Int) rfl rfl (by omega) (by omega) (by omega)) rfl ?_
              refine WL.step (ok_assign rfl) rfl ?_
              refine WL.nil ?_
              exact WX.again (k + 1) (by repeat (first | exact trivial | refine ⟨rfl, ?_⟩)) ⟨hE26, _, hPo.step hoi hiP, h26⟩ (by omega)
            ·
              have hk : o.length ≤ k := by have := of_decide_eq_false hc63; omega
              have hRP0 := hOP.rd0
              refine WC.exit ?_
              refine WX.thenE ?_
              refine WX.thenE ?_
              refine WX.blockHit ?_
              refine WX.thenC ?_
              refine WC.seq ?_
              refine WC.seq ?_
              refine WC.region ?_
              refine WL.step (ok_assign rfl) rfl ?_
              refine WL.nil ?_
              refine WX.thenC ?_
              refine WC.block ?_
              refine WC.loop (fun i : Nat => [(0, .slice a' l.length cap'), (8, .int .i64 (l.length : Nat)), (9, .slice (some ⟨b51, 0, none⟩) l.length l.length), (13, .int .i64 (i : Nat))])
                (fun i w' => i ≤ l.length ∧ Ext w2 w') (fun i => l.length - i) 0 (by repeat (first | exact trivial | refine ⟨rfl, ?_⟩)) ?_ ?_
              · exact ⟨by omega, Kp.refl _ _⟩
              rintro i w3 ⟨hin3, hE3⟩
              refine WC.seq ?_
              refine WC.seq ?_
              refine WC.region ?_
              refine WL.step (ok_move rfl) rfl ?_
              refine WL.step (ok_move rfl) rfl ?_
              refine WL.step (ok_lss rfl rfl) rfl ?_
              refine WL.nil ?_
              refine WX.thenC ?_
              refine WC.cond rfl (fun hc90 => ?_) (fun hc90 => ?_)
              ·
                have hlt : i < l.length := by have := of_decide_eq_true hc90; omega
                obtain ⟨b, off, rfl, hr⟩ := ((hI0.ext hE2).ext hE3).at hlt
                refine WC.skip ?_
                refine WX.thenC ?_
                refine WC.seq ?_
                refine WC.block ?_
                refine WC.seq ?_
                refine WC.region ?_
                refine WL.step (ok_move rfl) rfl ?_
                refine WL.step (ok_move rfl) rfl ?_
                refine WL.step (ok_indexS i rfl rfl rfl (by omega) Try.underlying22 sz31) rfl ?_
                refine WL.step (ok_loadN rfl agg31 sz31 rfl (Rd.elem hr (Stp.len l) i hlt)) rfl ?_
                refine WL.alloc zero31 rfl ?_
                intro b14 w14 hb14 ho14 hk14 hs14
                refine WL.store rfl rfl sz31 (ho14) rfl (by simp [Value.cells, Stp.cells]) stp_one ?_
                intro wr30 hor30 hkr30 hsr30
                have h14 : Own wr30 b14 31 l[i].cells := by
                  have h0 := hor30
                  simp only [Value.cells] at h0
                  rw [splice_all _ _ (by simp [Stp.cells])] at h0
                  exact h0
                have hE30 : Ext w3 wr30 := hk14.over hkr30 (fun i hi e => by omega)
                have hRP := (hRP0.kp hE3 (fun f => f)).kp hE30 (fun f => f)
                have hiP : i < P.length := by rw [hPo.1]; exact hlt
                have hcPi := rd_int hRP i hiP
                obtain ⟨ca, hca⟩ : ∃ x, x = l[i].ca := ⟨_, rfl⟩
                have hIi := ((hI0.ext hE2).ext (hE3.trans hE30)).val _ (List.getElem_mem hlt)
                rw [← hca] at hIi
                refine WL.nil ?_
                refine WX.thenC ?_
                refine WC.seq ?_
                refine WC.region ?_
                refine WL.step (ok_field rfl fld31_3) rfl ?_
                refine WL.step (ok_load rfl one25 (h14.rd0.cell 3 _ rfl)) rfl ?_
                refine WL.rew 98 (.slice ca l[i].cl.length l[i].ccap) rfl (by rw [hca]) ?_
                refine WL.step (ok_assign rfl) rfl ?_
                refine WL.nil ?_
                refine WX.thenC ?_
                refine WC.seq ?_
                refine WC.region ?_
                refine WL.step (ok_move rfl) rfl ?_
                refine WL.step (ok_move rfl) rfl ?_
                refine WL.step (ok_indexS i rfl rfl rfl (by omega) Try.underlying25 sz3) rfl ?_
                refine WL.step (ok_load rfl one3 (hcPi)) rfl ?_
                refine WL.step (ok_geq rfl rfl) rfl ?_
                refine WL.nil ?_
                refine WX.thenC ?_
                refine WC.cond rfl (fun hc103 => ?_) (fun hc103 => ?_)
                ·
                  have hp0 : 0 ≤ P[i] := of_decide_eq_true hc103
                  have hea := fun j hj => hPo.earl hPl hk hin hlt hiP hp0 (j := j) hj
                  refine WC.seq ?_
                  refine WC.seq ?_
                  refine WC.drawE [] 12 [(0, true), (1, true), (2, true), (3, true), (4, true), (5, true), (6, true), (7, false), (8, true), (9, true), (10, true), (11, true), (12, true), (13, true), (14, true), (15, true), (16, true), (17, false), (18, true), (19, true)] mixed (by kernel_rfl) (fun hS => ?_)
                  refine WO.quiet rfl (fun _ _ => ok_field rfl fld31_1) hS rfl ?_
                  refine WO.quiet rfl (fun _ hw => ok_load rfl one3 (Kp.cell hw (h14.rd0.cell 1 _ rfl) (fun f => f))) hS rfl ?_
                  refine WO.quiet rfl (fun _ _ => ok_move rfl) hS rfl ?_
                  refine WO.quiet rfl (fun _ _ => ok_move rfl) hS rfl ?_
                  refine WO.quiet rfl (fun _ _ => ok_move rfl) hS rfl ?_
                  refine WO.quiet rfl (fun _ _ => ok_indexS i rfl rfl rfl (by omega) Try.underlying25 sz3) hS rfl ?_
                  refine WO.quiet rfl (fun _ hw => ok_load rfl one3 (Kp.cell hw (hcPi) (fun f => f))) hS rfl ?_
                  refine WO.loudCall rfl (ok_callF rfl isfn14) rfl (earlierN P l.length hPo.1 l[i].prev P[i] (hin _ (List.getElem_mem hlt) _ (by simp [Stp.js])) b51 l.length _ (hRP.kp hS (fun f => f))) ?_
                  rintro v w111 ⟨rfl, hw111⟩
                  have hw111 := hw111.symm
                  subst hw111
                  refine ⟨(fun _ => hS), ?_⟩
                  refine WO.quiet rfl (fun _ _ => ok_not rfl) hS rfl ?_
                  refine WO.quiet rfl (fun _ _ => ok_move rfl) hS rfl ?_
                  refine WO.rew 113 (.bool false) rfl (congrArg Value.bool (by rw [hea l[i].prev (by simp [Stp.js])]; rfl)) ?_
                  refine WO.quietOn rfl rfl rfl (fun _ _ => ok_field rfl fld31_2) hS rfl ?_
                  refine WO.quietOn rfl rfl rfl (fun _ hw => ok_load rfl one3 (Kp.cell hw (h14.rd0.cell 2 _ rfl) (fun f => f))) hS rfl ?_
                  refine WO.quietOn rfl rfl rfl (fun _ _ => ok_move rfl) hS rfl ?_
                  refine WO.quietOn rfl rfl rfl (fun _ _ => ok_move rfl) hS rfl ?_
                  refine WO.quietOn rfl rfl rfl (fun _ _ => ok_move rfl) hS rfl ?_
                  refine WO.quietOn rfl rfl rfl (fun _ _ => ok_indexS i rfl rfl rfl (by omega) Try.underlying25 sz3) hS rfl ?_
                  refine WO.quietOn rfl rfl rfl (fun _ hw => ok_load rfl one3 (Kp.cell hw (hcPi) (fun f => f))) hS rfl ?_
                  refine WO.loudCallOn rfl rfl rfl (ok_callF rfl isfn14) rfl (earlierN P l.length hPo.1 l[i].send P[i] (hin _ (List.getElem_mem hlt) _ (by simp [Stp.js])) b51 l.length _ (hRP.kp hS (fun f => f))) ?_
                  rintro v w121 ⟨rfl, hw121⟩
                  have hw121 := hw121.symm
                  subst hw121
                  refine ⟨(fun _ => hS), ?_⟩
                  refine WO.quietOn rfl rfl rfl (fun _ _ => ok_not rfl) hS rfl ?_
                  refine WO.quiet rfl (fun _ _ => ok_pickF rfl rfl) hS rfl ?_
                  refine WO.nil ?_
                  refine WX.thenC ?_
                  refine WC.condFb rfl (by rw [hea l[i].send (by simp [Stp.js])]; rfl) ?_
                  refine WC.skip ?_
                  refine WX.thenC ?_
                  refine WC.seq ?_
                  refine WC.region ?_
                  refine WL.step (ok_assign rfl) rfl ?_
                  refine WL.nil ?_
                  refine WX.thenC ?_
                  refine WC.block ?_
                  refine WC.loop (fun c : Nat => [(0, .slice (some ⟨b, off, none⟩) l.length cap'), (8, .int .i64 (l.length : Nat)), (9, .slice (some ⟨b51, 0, none⟩) l.length l.length), (13, .int .i64 (i : Nat)), (15, .slice ca l[i].cl.length l[i].ccap), (16, .int .i64 (c : Nat))])
                    (fun c w' => c ≤ l[i].cl.length ∧ Ext wr30 w') (fun c => l[i].cl.length - c) 0 (by repeat (first | exact trivial | refine ⟨rfl, ?_⟩)) ?_ ?_
                  · exact ⟨by omega, hS⟩
                  rintro c w4 ⟨hcn, hE4⟩
                  have hsi := hsm _ (List.getElem_mem hlt)
                  refine WC.seq ?_
                  refine WC.seq ?_
                  refine WC.region ?_
                  refine WL.step (ok_move rfl) rfl ?_
                  refine WL.step (ok_move rfl) rfl ?_
                  refine WL.step (ok_lenSlice rfl Try.underlying25) rfl ?_
                  refine WL.step (ok_lss rfl rfl) rfl ?_
                  refine WL.nil ?_
                  refine WX.thenC ?_
                  refine WC.cond rfl (fun hc127 => ?_) (fun hc127 => ?_)
                  ·
                    have hlt2 : c < l[i].cl.length := by have := of_decide_eq_true hc127; omega
                    obtain ⟨b2, off2, rfl, hr2⟩ := (hIi.ext hE4).at hlt2
                    have hRP4 := hRP.kp hE4 (fun f => f)
                    refine WC.skip ?_
                    refine WX.thenC ?_
                    refine WC.seq ?_
                    refine WC.block ?_
                    refine WC.seq ?_
                    refine WC.drawE [] 5 [(0, true), (1, true), (2, true), (3, true), (4, true), (5, true), (6, true), (7, true), (8, true), (9, false), (10, true)] mixed (by kernel_rfl) (fun hS => ?_)
                    refine WO.quiet rfl (fun _ _ => ok_move rfl) hS rfl ?_
                    refine WO.quiet rfl (fun _ _ => ok_move rfl) hS rfl ?_
                    refine WO.quiet rfl (fun _ _ => ok_indexS c rfl rfl rfl (by omega) Try.underlying25 sz3) hS rfl ?_
                    refine WO.quiet rfl (fun _ hw => ok_load rfl one3 (Kp.cell hw (rd_int hr2 c hlt2) (fun f => f))) hS rfl ?_
                    refine WO.quiet rfl (fun _ _ => ok_move rfl) hS rfl ?_
                    refine WO.quiet rfl (fun _ _ => ok_move rfl) hS rfl ?_
                    refine WO.quiet rfl (fun _ _ => ok_move rfl) hS rfl ?_
                    refine WO.quiet rfl (fun _ _ => ok_indexS i rfl rfl rfl (by omega) Try.underlying25 sz3) hS rfl ?_
                    refine WO.quiet rfl (fun _ hw => ok_load rfl one3 (Kp.cell hw (rd_int hRP4 i hiP) (fun f => f))) hS rfl ?_
                    refine WO.loudCall rfl (ok_callF rfl isfn14) rfl (earlierN P l.length hPo.1 l[i].cl[c] P[i] (hin _ (List.getElem_mem hlt) _ (by simp [Stp.js])) b51 l.length _ (hRP4.kp hS (fun f => f))) ?_
                    rintro v w139 ⟨rfl, hw139⟩
                    have hw139 := hw139.symm
                    subst hw139
                    refine ⟨(fun _ => hS), ?_⟩
                    refine WO.quiet rfl (fun _ _ => ok_not rfl) hS rfl ?_
                    refine WO.nil ?_
                    refine WX.thenC ?_
                    refine WC.condFb rfl (by rw [hea l[i].cl[c] (by simp [Stp.js])]; rfl) ?_
                    refine WC.skip ?_
                    refine WX.blockN ?_
                    refine WX.thenC ?_
                    refine WC.region ?_
                    refine WL.step (ok_move rfl) rfl ?_
                    refine WL.step (ok_add ((c + 1 : Nat) : Int) rfl rfl (by omega) (by omega) (by omega)) rfl ?_
                    refine WL.step (ok_assign rfl) rfl ?_
                    refine WL.nil ?_
                    exact WX.again (c + 1) (by repeat (first | exact trivial | refine ⟨rfl, ?_⟩)) ⟨by omega, hE4.trans hS⟩ (by omega)
                  ·
                    refine WC.exit ?_
                    refine WX.thenE ?_
                    refine WX.thenE ?_
                    refine WX.blockHit ?_
                    refine WX.blockN ?_
                    refine WX.thenC ?_
                    refine WC.region ?_
                    refine WL.step (ok_move rfl) rfl ?_
                    refine WL.step (ok_add ((i + 1 : Nat) : Int) rfl rfl (by omega) (by omega) (by omega)) rfl ?_
                    refine WL.step (ok_assign rfl) rfl ?_
                    refine WL.nil ?_
                    exact WX.again (i + 1) (by repeat (first | exact trivial | refine ⟨rfl, ?_⟩)) ⟨by omega, (hE3.trans hE30).trans hE4⟩ (by omega)
                ·
                  have hp0 : ¬ 0 ≤ P[i] := of_decide_eq_false hc103
                  have hany := hPo.unpl hPl hk hin hlt hiP hp0
                  refine WC.cut (fun bl : Bool => [(0, .slice (some ⟨b, off, none⟩) l.length cap'), (8, .int .i64 (l.length : Nat)), (9, .slice (some ⟨b51, 0, none⟩) l.length l.length), (13, .int .i64 (i : Nat)), (15, .slice ca l[i].cl.length l[i].ccap), (17, .bool bl)])
                    (fun bl w' => bl = (unpl P l[i].prev || unpl P l[i].send) ∧ w' = wr30) ?_ ?_
                  ·
                    refine WC.region ?_
                    refine WL.step (ok_field rfl fld31_1) rfl ?_
                    refine WL.step (ok_load rfl one3 (h14.rd0.cell 1 _ rfl)) rfl ?_
                    refine WL.step (ok_move rfl) rfl ?_
                    refine WL.call (ok_callF rfl isfn15) rfl (unplayedN P l.length hPo.1 l[i].prev (hin _ (List.getElem_mem hlt) _ (by simp [Stp.js])) b51 l.length _ hRP) ?_
                    rintro v w144 ⟨rfl, hw144⟩
                    have hw144 := hw144.symm
                    subst hw144
                    refine WL.step (ok_move rfl) rfl ?_
                    refine WL.splitB 145 rfl (fun hb145 => ?_) (fun hb145 => ?_)
                    ·
                      refine WL.off rfl rfl rfl rfl ?_
                      refine WL.off rfl rfl rfl rfl ?_
                      refine WL.off rfl rfl rfl rfl ?_
                      refine WL.off rfl rfl rfl rfl ?_
                      refine WL.step (ok_pickT rfl rfl) rfl ?_
                      refine WL.step (ok_assign rfl) rfl ?_
                      refine WL.nil ?_
                      exact WX.again true (by repeat (first | exact trivial | refine ⟨rfl, ?_⟩)) ⟨by rw [hb145, Bool.true_or], rfl⟩ Nat.zero_lt_one
                    ·
                      refine WL.on rfl rfl ?_
                      refine WL.step (ok_field rfl fld31_2) rfl ?_
                      refine WL.on rfl rfl ?_
                      refine WL.step (ok_load rfl one3 (h14.rd0.cell 2 _ rfl)) rfl ?_
                      refine WL.on rfl rfl ?_
                      refine WL.step (ok_move rfl) rfl ?_
                      refine WL.on rfl rfl ?_
                      refine WL.call (ok_callF rfl isfn15) rfl (unplayedN P l.length hPo.1 l[i].send (hin _ (List.getElem_mem hlt) _ (by simp [Stp.js])) b51 l.length _ hRP) ?_
                      rintro v w149 ⟨rfl, hw149⟩
                      have hw149 := hw149.symm
                      subst hw149
                      refine WL.step (ok_pickF rfl rfl) rfl ?_
                      refine WL.step (ok_assign rfl) rfl ?_
                      refine WL.nil ?_
                      exact WX.again _ (by repeat (first | exact trivial | refine ⟨rfl, ?_⟩)) ⟨by rw [hb145, Bool.false_or], rfl⟩ Nat.zero_lt_one
                  ·
                    rintro bl0 w6 ⟨hbl0, hw6⟩
                    have hw6 := hw6.symm
                    subst hw6
                    refine WC.seq ?_
                    refine WC.seq ?_
                    refine WC.region ?_
                    refine WL.step (ok_assign rfl) rfl ?_
                    refine WL.nil ?_
                    refine WX.thenC ?_
                    refine WC.block ?_
                    refine WC.loop (fun x : Bool × Nat => [(0, .slice (some ⟨b, off, none⟩) l.length cap'), (8, .int .i64 (l.length : Nat)), (9, .slice (some ⟨b51, 0, none⟩) l.length l.length), (13, .int .i64 (i : Nat)), (15, .slice ca l[i].cl.length l[i].ccap), (17, .bool x.1), (18, .int .i64 (x.2 : Nat))])
                      (fun x w' => x.2 ≤ l[i].cl.length ∧ x.1 = (bl0 || (l[i].cl.take x.2).any (unpl P)) ∧ w' = wr30) (fun x => l[i].cl.length - x.2) (bl0, 0) (by repeat (first | exact trivial | refine ⟨rfl, ?_⟩)) ?_ ?_
                    · exact ⟨by show 0 ≤ _; omega, by simp, rfl⟩
                    rintro ⟨bl, c⟩ w5 ⟨hcn, hbl, hw5⟩
                    dsimp only at hcn hbl
                    dsimp only
                    have hw5 := hw5.symm
                    subst hw5
                    have hsi := hsm _ (List.getElem_mem hlt)
                    rw [hbl0] at hbl
                    refine WC.seq ?_
                    refine WC.seq ?_
                    refine WC.region ?_
                    refine WL.step (ok_move rfl) rfl ?_
                    refine WL.step (ok_move rfl) rfl ?_
                    refine WL.step (ok_lenSlice rfl Try.underlying25) rfl ?_
                    refine WL.step (ok_lss rfl rfl) rfl ?_
                    refine WL.nil ?_
                    refine WX.thenC ?_
                    refine WC.cond rfl (fun hc154 => ?_) (fun hc154 => ?_)
                    ·
                      have hlt2 : c < l[i].cl.length := by have := of_decide_eq_true hc154; omega
                      obtain ⟨b2, off2, rfl, hr2⟩ := hIi.at hlt2
                      refine WC.skip ?_
                      refine WX.thenC ?_
                      refine WC.seq ?_
                      refine WC.block ?_
                      refine WC.seq ?_
                      refine WC.region ?_
                      refine WL.step (ok_move rfl) rfl ?_
                      refine WL.step (ok_move rfl) rfl ?_
                      refine WL.step (ok_indexS c rfl rfl rfl (by omega) Try.underlying25 sz3) rfl ?_
                      refine WL.step (ok_load rfl one3 (rd_int hr2 c hlt2)) rfl ?_
                      refine WL.step (ok_move rfl) rfl ?_
                      refine WL.call (ok_callF rfl isfn15) rfl (unplayedN P l.length hPo.1 l[i].cl[c] (hin _ (List.getElem_mem hlt) _ (by simp [Stp.js])) b51 l.length _ hRP) ?_
                      rintro v w162 ⟨rfl, hw162⟩
                      have hw162 := hw162.symm
                      subst hw162
                      refine WL.nil ?_
                      refine WX.thenC ?_
                      refine WC.cond rfl (fun hc162 => ?_) (fun hc162 => ?_)
                      ·
                        refine WC.region ?_
                        refine WL.step (ok_assign rfl) rfl ?_
                        refine WL.nil ?_
                        refine WX.blockN ?_
                        refine WX.thenC ?_
                        refine WC.region ?_
                        refine WL.step (ok_move rfl) rfl ?_
                        refine WL.step (ok_add ((c + 1 : Nat) : Int) rfl rfl (by omega) (by omega) (by omega)) rfl ?_
                        refine WL.step (ok_assign rfl) rfl ?_
                        refine WL.nil ?_
                        exact WX.again (true, c + 1) (by repeat (first | exact trivial | refine ⟨rfl, ?_⟩)) ⟨by show c + 1 ≤ _; omega, by show true = _; rw [any_take_succI _ _ c hlt2, hc162, Bool.or_true, Bool.or_true], rfl⟩ (by show _ - (c + 1) < _ - c; omega)
                      ·
                        refine WC.skip ?_
                        refine WX.blockN ?_
                        refine WX.thenC ?_
                        refine WC.region ?_
                        refine WL.step (ok_move rfl) rfl ?_
                        refine WL.step (ok_add ((c + 1 : Nat) : Int) rfl rfl (by omega) (by omega) (by omega)) rfl ?_
                        refine WL.step (ok_assign rfl) rfl ?_
                        refine WL.nil ?_
                        exact WX.again (bl, c + 1) (by repeat (first | exact trivial | refine ⟨rfl, ?_⟩)) ⟨by show c + 1 ≤ _; omega, by show bl = _; rw [any_take_succI _ _ c hlt2, hc162, Bool.or_false, hbl, hbl0], rfl⟩ (by show _ - (c + 1) < _ - c; omega)
                    ·
                      have hge5 : c = l[i].cl.length := by have := of_decide_eq_false hc154; omega
                      have hbt : bl = true := by
                        rw [hbl, hge5, List.take_length, ← hany]
                        simp [Stp.js, Bool.or_assoc]
                      refine WC.exit ?_
                      refine WX.thenE ?_
                      refine WX.thenE ?_
                      refine WX.blockHit ?_
                      refine WX.thenC ?_
                      refine WC.seq ?_
                      refine WC.region ?_
                      refine WL.step (ok_move rfl) rfl ?_
                      refine WL.step (ok_not rfl) rfl ?_
                      refine WL.nil ?_
                      refine WX.thenC ?_
                      refine WC.condFb rfl (by rw [hbt]; rfl) ?_
                      refine WC.skip ?_
                      refine WX.blockN ?_
                      refine WX.thenC ?_
                      refine WC.region ?_
                      refine WL.step (ok_move rfl) rfl ?_
                      refine WL.step (ok_add ((i + 1 : Nat) : Int) rfl rfl (by omega) (by omega) (by omega)) rfl ?_
                      refine WL.step (ok_assign rfl) rfl ?_
                      refine WL.nil ?_
                      exact WX.again (i + 1) (by repeat (first | exact trivial | refine ⟨rfl, ?_⟩)) ⟨by omega, hE3.trans hE30⟩ (by omega)
              ·
                refine WC.exit ?_
                refine WX.thenE ?_
                refine WX.thenE ?_
                refine WX.blockHit ?_
                refine WX.thenC ?_
                refine WC.seq ?_
                refine WC.region ?_
                refine WL.step (ok_assign rfl) rfl ?_
                refine WL.nil ?_
                refine WX.thenC ?_
                refine WC.ret ?_
                exact WX.ret1 rfl rfl ⟨_, rfl, rfl, (hE0.trans hE2).trans hE3⟩

end Go.Proofs.Try
