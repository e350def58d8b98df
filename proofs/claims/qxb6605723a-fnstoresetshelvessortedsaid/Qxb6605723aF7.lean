/- Walk: the law of insert's splice. -/
import Derived.Test.Qxb6605723aF5
import Derived.Test.Qxb6605723aW10
set_option linter.unusedVariables false
set_option linter.unusedSimpArgs false
set_option maxRecDepth 100000
namespace Go.Sx
open Go.Pl

/-- Bytes, all of them below lo. -/
def BytL (lo : Nat) (w : World) (a : Option Addr) (l : List UInt8) : Prop := l ≠ [] → ∃ b off, a = some ⟨b, off, none⟩ ∧ b < lo ∧ Rd w b off (kc l)
theorem BytesAt.low {w : World} {a : Option Addr} {l : List UInt8} (h : BytesAt w a l) : BytL w.heap.size w a l := fun hne => by
  obtain ⟨b, off, h1, h2⟩ := h hne
  refine ⟨b, off, h1, ?_, h2⟩
  cases l with
  | nil => exact absurd rfl hne
  | cons x l => exact block_lt_of_cell (h2 0 (.int .u8 x.toNat) rfl)
theorem BytL.kp {lo : Nat} {w w' : World} {a : Option Addr} {l : List UInt8} (h : BytL lo w a l) (k : Kp (lo ≤ ·) w w') : BytL lo w' a l := fun hne => by
  obtain ⟨b, off, h1, h2, h3⟩ := h hne
  exact ⟨b, off, h1, h2, h3.kp k (by omega)⟩
theorem BytL.ext {lo : Nat} {w w' : World} {a : Option Addr} {l : List UInt8} (h : BytL lo w a l) (k : Ext w w') : BytL lo w' a l := h.kp (Kp.of_ext k)
theorem BytL.at {lo : Nat} {w : World} {a : Option Addr} {l : List UInt8} (h : BytL lo w a l) : BytesAt w a l := fun hne => by
  obtain ⟨b, off, h1, h2, h3⟩ := h hne
  exact ⟨b, off, h1, h3⟩

theorem enc_take_succ {α : Type} (f : α → List Value) (n : Nat) (l : List α) (hl : ∀ a ∈ l, (f a).length = n) (j : Nat) (hj : j < l.length) (rest : List Value) (x : List Value) (hx : x = f l[j]) :
    splice ((l.take j).flatMap f ++ rest) (0 + j * n) x = (l.take (j + 1)).flatMap f ++ rest.drop n := by
  have h1 : ((l.take j).flatMap f).length = j * n := by rw [flatMap_length f n (l.take j) (fun a ha => hl a (List.mem_of_mem_take ha)), List.length_take, Nat.min_eq_left (by omega)]
  rw [splice_mid _ _ _ _ (by rw [h1]; omega), flatMap_take_succ f l j hj, hx, hl _ (List.getElem_mem hj)]

theorem mem_set_flat {runs : List (List Slot)} {r : Nat} {u : List Slot} {s : Slot} (h : s ∈ (runs.set r u).flatten) : s ∈ u ∨ s ∈ runs.flatten := by
  obtain ⟨v, hv, hs⟩ := List.mem_flatten.1 h
  rcases List.mem_or_eq_of_mem_set hv with h1 | rfl
  · exact .inr (List.mem_flatten.2 ⟨v, h1, hs⟩)
  · exact .inl hs
theorem mem_put {runs : List (List Slot)} {e s : Slot} (h : s ∈ (putL runs e).flatten) : s = e ∨ s ∈ runs.flatten := by
  unfold putL at h
  simp only at h
  split at h
  · rcases mem_set_flat h with h1 | h1
    · rcases List.mem_or_eq_of_mem_set h1 with h2 | h2
      · right
        cases hr : runs[(placeOf (lens runs) (cntF (geP e.key e.name.toList) runs.flatten)).1]? with
        | none => simp [List.getD, hr] at h2
        | some u =>
          simp only [List.getD, hr, Option.getD_some] at h2
          exact List.mem_flatten.2 ⟨u, List.mem_of_getElem? hr, h2⟩
      · exact .inl h2
    · exact .inr h1
  · rw [insAt_flat (c := cntF (geP e.key e.name.toList) runs.flatten) e List.countP_le_length rfl] at h
    rcases List.mem_append.1 h with h1 | h1
    · exact .inr (List.mem_of_mem_take h1)
    · rcases List.mem_cons.1 h1 with h2 | h2
      · exact .inl h2
      · exact .inr (List.mem_of_mem_drop h2)
def NilV (runs : List (List Slot)) : Prop := ∀ s ∈ runs.flatten, s.val = .slice none 0 0
theorem NilV.nil : NilV [] := by intro s hs; simp at hs
theorem NilV.put {runs : List (List Slot)} (h : NilV runs) (e : Slot) (he : e.val = .slice none 0 0) : NilV (putL runs e) := by
  intro s hs
  rcases mem_put hs with rfl | hs
  · exact he
  · exact h s hs

/-- What stands where after a splice. -/
theorem spl_get (F : List Slot) (E : Slot) (c j : Nat) (hc : c ≤ F.length) : (F.take c ++ E :: F.drop c)[j]? = if j = c then some E else F[if c < j then j - 1 else j]? := by
  have hl : (F.take c).length = c := by simp; omega
  rcases Nat.lt_trichotomy j c with h | h | h
  · rw [if_neg (by omega), if_neg (by omega), List.getElem?_append_left (by omega), List.getElem?_take_of_lt h]
  · rw [if_pos h, List.getElem?_append_right (by omega), hl, h]; simp
  · rw [if_neg (by omega), if_pos h, List.getElem?_append_right (by omega), hl]
    obtain ⟨m, hm⟩ : ∃ m, j - c = m + 1 := ⟨j - c - 1, by omega⟩
    rw [hm, List.getElem?_cons_succ, List.getElem?_drop]
    congr 1; omega

def k1 (s : Slot) : List Value := kc s.key
def k2 (s : Slot) : List Value := [.string s.name]
def k3 (s : Slot) : List Value := [.int .u64 s.term]
/-- Three rows of what the flat list held, up to p. -/
def Old3 (w : World) (b1 b2 b3 : Nat) (F : List Slot) (p : Nat) : Prop :=
  (∃ r, Own w b1 29 ((F.take p).flatMap k1 ++ r) ∧ r.length = (F.length - p) * 20) ∧ (∃ r, Own w b2 9 ((F.take p).flatMap k2 ++ r) ∧ r.length = (F.length - p) * 1) ∧ (∃ r, Own w b3 52 ((F.take p).flatMap k3 ++ r) ∧ r.length = (F.length - p) * 1)
theorem Old3.ext {w w' : World} {b1 b2 b3 p : Nat} {F : List Slot} (h : Old3 w b1 b2 b3 F p) (k : Ext w w') : Old3 w' b1 b2 b3 F p := by
  obtain ⟨⟨r1, h1, q1⟩, ⟨r2, h2, q2⟩, ⟨r3, h3, q3⟩⟩ := h
  exact ⟨⟨r1, h1.ext k, q1⟩, ⟨r2, h2.ext k, q2⟩, ⟨r3, h3.ext k, q3⟩⟩
theorem Old3.kp {M : Nat → Prop} {w w' : World} {b1 b2 b3 p : Nat} {F : List Slot} (h : Old3 w b1 b2 b3 F p) (k : Kp M w w') (n1 : ¬ M b1) (n2 : ¬ M b2) (n3 : ¬ M b3) : Old3 w' b1 b2 b3 F p := by
  obtain ⟨⟨r1, h1, q1⟩, ⟨r2, h2, q2⟩, ⟨r3, h3, q3⟩⟩ := h
  exact ⟨⟨r1, k.own h1 n1, q1⟩, ⟨r2, k.own h2 n2, q2⟩, ⟨r3, k.own h3 n3, q3⟩⟩
end Go.Sx
namespace Go.Proofs.Try
open Go.Sx Go.Pl

set_option maxHeartbeats 4000000 in
theorem lawSplices (l : List Itm) (ho : OkI l) (a : Option Addr) (cap : Nat) (k : List UInt8) (n : ByteArray) (hk : k.length = 20) (vl : List UInt8) (va : Option Addr) (vcap t : Nat) (w : World) (hI : ItemsAt w a l) (hV : BytesAt w va vl) :
    CallsV Try.prog 7 #[.slice a l.length cap, .agg (kc k).toArray, .string n, .slice va vl.length vcap, .int .u64 (t : Nat)] w fun v w' => v = .bool true ∧ Ext w w' := by
  refine calls_intro (args := [_, _, _, _, _]) Try.func7 rfl Try.ntmps7 rfl ?_
  refine WC.seq ?_
  refine WC.region ?_
  refine WL.box (c := kc k) rfl rfl rfl ?_
  intro b6 w6 hb6 ho6 hk6 hs6
  refine WL.step (ok_assign rfl) rfl ?_
  refine WL.nil ?_
  refine WX.thenC ?_
  refine WC.seq ?_
  refine WC.seq ?_
  refine WC.region ?_
  refine WL.step (ok_move rfl) rfl ?_
  refine WL.step (ok_loadN rfl agg29 sz29 (by simp [hk]) (ho6.rd0)) rfl ?_
  refine WL.step (ok_move rfl) rfl ?_
  refine WL.step (ok_move rfl) rfl ?_
  refine WL.step (ok_move rfl) rfl ?_
  refine WL.call (ok_callF rfl isfn39) rfl (bytesSplices l ho a cap _ n va vl.length vcap _ _ (hI.ext hk6)) ?_
  rintro v w25 ⟨⟨z25, rfl, hz25⟩, hE25⟩
  refine WL.step (ok_not rfl) rfl ?_
  refine WL.nil ?_
  refine WX.thenC ?_
  refine WC.cond rfl (fun hc41 => ?_) (fun hc41 => ?_)
  ·
    refine WC.seq ?_
    refine WC.region ?_
    refine WL.step (ok_assign rfl) rfl ?_
    refine WL.nil ?_
    refine WX.thenC ?_
    refine WC.ret ?_
    refine WX.thenR ?_
    exact WX.ret1 rfl rfl ⟨_, rfl, rfl, hk6.trans hE25⟩
  ·
    have hz := hz25 (by simpa using hc41)
    obtain ⟨hnm, hnx, hvx⟩ := hz
    refine WC.skip ?_
    refine WX.thenC ?_
    refine WC.seq ?_
    refine WC.seq ?_
    refine WC.region ?_
    refine WL.step (ok_move rfl) rfl ?_
    refine WL.step (ok_lenSlice rfl Try.underlying57) rfl ?_
    refine WL.step (ok_gtr rfl rfl) rfl ?_
    refine WL.step (ok_move rfl) rfl ?_
    refine WL.splitB 45 rfl (fun hb45 => ?_) (fun hb45 => ?_)
    ·
      refine WL.off rfl rfl rfl rfl ?_
      refine WL.off rfl rfl rfl rfl ?_
      refine WL.off rfl rfl rfl rfl ?_
      refine WL.step (ok_pickT rfl rfl) rfl ?_
      refine WL.step (ok_move rfl) rfl ?_
      refine WL.rew 50 (.bool true) rfl (congrArg Value.bool rfl) ?_
      refine WL.off rfl rfl rfl rfl ?_
      refine WL.off rfl rfl rfl rfl ?_
      refine WL.off rfl rfl rfl rfl ?_
      refine WL.step (ok_pickT rfl rfl) rfl ?_
      refine WL.nil ?_
      refine WX.thenC ?_
      refine WC.condTb rfl rfl ?_
      refine WC.seq ?_
      refine WC.region ?_
      refine WL.step (ok_assign rfl) rfl ?_
      refine WL.nil ?_
      refine WX.thenC ?_
      refine WC.ret ?_
      refine WX.thenR ?_
      exact WX.ret1 rfl rfl ⟨_, rfl, rfl, hk6.trans hE25⟩
    ·
      have hn4 : l.length ≤ 4096 := by have := of_decide_eq_false hb45; omega
      refine WL.on rfl rfl ?_
      refine WL.step (ok_move rfl) rfl ?_
      refine WL.on rfl rfl ?_
      refine WL.step (ok_lenString rfl Try.underlying9) rfl ?_
      refine WL.on rfl rfl ?_
      refine WL.step (ok_gtr rfl rfl) rfl ?_
      refine WL.step (ok_pickF rfl rfl) rfl ?_
      refine WL.step (ok_move rfl) rfl ?_
      refine WL.splitB 50 rfl (fun hb50 => ?_) (fun hb50 => ?_)
      ·
        refine WL.off rfl rfl rfl rfl ?_
        refine WL.off rfl rfl rfl rfl ?_
        refine WL.off rfl rfl rfl rfl ?_
        refine WL.step (ok_pickT rfl rfl) rfl ?_
        refine WL.nil ?_
        refine WX.thenC ?_
        refine WC.condTb rfl rfl ?_
        refine WC.seq ?_
        refine WC.region ?_
        refine WL.step (ok_assign rfl) rfl ?_
        refine WL.nil ?_
        refine WX.thenC ?_
        refine WC.ret ?_
        refine WX.thenR ?_
        exact WX.ret1 rfl rfl ⟨_, rfl, rfl, hk6.trans hE25⟩
      ·
        refine WL.on rfl rfl ?_
        refine WL.step (ok_move rfl) rfl ?_
        refine WL.on rfl rfl ?_
        refine WL.step (ok_lenSlice rfl Try.underlying30) rfl ?_
        refine WL.on rfl rfl ?_
        refine WL.step (ok_gtr rfl rfl) rfl ?_
        refine WL.step (ok_pickF rfl rfl) rfl ?_
        refine WL.nil ?_
        refine WX.thenC ?_
        refine WC.cond rfl (fun hc54 => ?_) (fun hc54 => ?_)
        ·
          refine WC.seq ?_
          refine WC.region ?_
          refine WL.step (ok_assign rfl) rfl ?_
          refine WL.nil ?_
          refine WX.thenC ?_
          refine WC.ret ?_
          refine WX.thenR ?_
          exact WX.ret1 rfl rfl ⟨_, rfl, rfl, hk6.trans hE25⟩
        ·
          refine WC.skip ?_
          refine WX.thenC ?_
          refine WC.seq ?_
          refine WC.seq ?_
          refine WC.region ?_
          refine WL.step (ok_move rfl) rfl ?_
          refine WL.call (ok_callF rfl isfn28) rfl (itemsBytes l ho a cap (by omega) _ ((hI.ext hk6).ext hE25)) ?_
          rintro v w36 ⟨⟨z36, rfl⟩, hw36⟩
          subst hw36
          refine WL.step (ok_move rfl) rfl ?_
          refine WL.step (ok_lenString rfl Try.underlying9) rfl ?_
          refine WL.step (ok_addW rfl rfl) rfl ?_
          refine WL.step (ok_move rfl) rfl ?_
          refine WL.step (ok_lenSlice rfl Try.underlying30) rfl ?_
          refine WL.step (ok_addW rfl rfl) rfl ?_
          refine WL.step (ok_gtr rfl rfl) rfl ?_
          refine WL.nil ?_
          refine WX.thenC ?_
          refine WC.cond rfl (fun hc63 => ?_) (fun hc63 => ?_)
          ·
            refine WC.seq ?_
            refine WC.region ?_
            refine WL.step (ok_assign rfl) rfl ?_
            refine WL.nil ?_
            refine WX.thenC ?_
            refine WC.ret ?_
            refine WX.thenR ?_
            exact WX.ret1 rfl rfl ⟨_, rfl, rfl, hk6.trans hE25⟩
          ·
            refine WC.skip ?_
            refine WX.thenC ?_
            refine WC.seq ?_
            refine WC.seq ?_
            refine WC.region ?_
            refine WL.step (ok_move rfl) rfl ?_
            refine WL.step (ok_loadN rfl agg29 sz29 (by simp [hk]) ((ho6.ext hE25).rd0)) rfl ?_
            refine WL.step (ok_move rfl) rfl ?_
            refine WL.call (ok_callF rfl isfn37) rfl (absentW l ho a cap ⟨k, n⟩ hk (by omega) _ ((hI.ext hk6).ext hE25)) ?_
            rintro v w45 ⟨rfl, hE45⟩
            refine WL.step (ok_not rfl) rfl ?_
            refine WL.nil ?_
            refine WX.thenC ?_
            refine WC.cond rfl (fun hc68 => ?_) (fun hc68 => ?_)
            ·
              refine WC.seq ?_
              refine WC.region ?_
              refine WL.step (ok_assign rfl) rfl ?_
              refine WL.nil ?_
              refine WX.thenC ?_
              refine WC.ret ?_
              refine WX.thenR ?_
              exact WX.ret1 rfl rfl ⟨_, rfl, rfl, (hk6.trans hE25).trans hE45⟩
            ·
              have habs : absent l ⟨k, n⟩ = true := by simpa using hc68
              refine WC.skip ?_
              refine WX.thenC ?_
              refine WC.seq ?_
              refine WC.region ?_
              refine WL.step (ok_move rfl) rfl ?_
              refine WL.call (ok_callF rfl isfn29) rfl (cloneItems l ho a cap hn4 _ (((hI.ext hk6).ext hE25).ext hE45)) ?_
              rintro v w42 ⟨a', cap', rfl, hI42, hfr42, hE42⟩
              refine WL.step (ok_assign rfl) rfl ?_
              refine WL.nil ?_
              refine WX.thenC ?_
              refine WC.seq ?_
              refine WC.region ?_
              refine WL.step (ok_move rfl) rfl ?_
              refine WL.call (ok_callF rfl isfn40) rfl (cloneBytes vl va vcap (by omega) _ (hV.ext (((hk6.trans hE25).trans hE45).trans hE42))) ?_
              rintro v w72 ⟨va', vcap', rfl, hV72, hfrv, hE72⟩
              have hEw42 : Ext w w72 := (((hk6.trans hE25).trans hE45).trans hE42).trans hE72
              have h42 := (((ho6.ext hE25).ext hE45).ext hE42).ext hE72
              obtain ⟨lo, hlo⟩ : ∃ lo, lo = w72.heap.size := ⟨_, rfl⟩
              have hT42 := (hI42.ext hE72).low ho
              rw [← hlo] at hT42
              have hVL := hV72.low
              rw [← hlo] at hVL
              have hb4l : b6 < lo := by rw [hlo]; exact h42.lt
              have hwlo : w.heap.size ≤ lo := by rw [hlo]; exact hEw42.size
              refine WL.step (ok_assign rfl) rfl ?_
              refine WL.nil ?_
              refine WX.thenC ?_
              refine WC.seq ?_
              refine WC.region ?_
              refine WL.call (ok_callF rfl isfn30) rfl (newShelf _) ?_
              rintro v w43 ⟨sb, rfl, hsb, hO43, hE43⟩
              have hS0 : ShL lo w43 sb [] := ShL.new hO43 (by omega)
              have hlo43 : lo ≤ w43.heap.size := by rw [hlo]; exact hE43.size
              refine WL.step (ok_assign rfl) rfl ?_
              refine WL.nil ?_
              refine WX.thenC ?_
              refine WC.seq ?_
              refine WC.seq ?_
              refine WC.region ?_
              refine WL.step (ok_assign rfl) rfl ?_
              refine WL.nil ?_
              refine WX.thenC ?_
              refine WC.block ?_
              refine WC.loop (fun j : Nat => [(0, .slice a' l.length cap'), (2, .string n), (3, .slice va' vl.length vcap'), (4, .int .u64 (t : Nat)), (6, .pointer (some ⟨b6, 0, none⟩)), (11, .pointer (some ⟨sb, 0, none⟩)), (12, .int .i64 (j : Nat))])
                (fun j w' => j ≤ l.length ∧ ∃ runs, ShL lo w' sb runs ∧ Fil runs ((l.take j).map pk) ∧ NilV runs ∧ Kp (lo ≤ ·) w43 w') (fun j => l.length - j) 0 (by repeat (first | exact trivial | refine ⟨rfl, ?_⟩)) ?_ ?_
              · exact ⟨by omega, [], hS0, by simpa using Fil.nil, NilV.nil, Kp.refl _ _⟩
              rintro j w2 ⟨hjn, runs, hSh, hF, hNV, hK⟩
              have hT2 := (hT42.kp (Kp.of_ext hE43)).kp hK
              have hI1 := hT2.at
              have h4b := hK.own (h42.ext hE43) (by omega)
              have hE0 : Ext w w2 := (hEw42.trans hE43).over hK (fun i hi e => by omega)
              have hVb := (hVL.ext hE43).kp hK
              refine WC.seq ?_
              refine WC.seq ?_
              refine WC.region ?_
              refine WL.step (ok_move rfl) rfl ?_
              refine WL.step (ok_move rfl) rfl ?_
              refine WL.step (ok_lenSlice rfl Try.underlying57) rfl ?_
              refine WL.step (ok_lss rfl rfl) rfl ?_
              refine WL.nil ?_
              refine WX.thenC ?_
              refine WC.cond rfl (fun hc77 => ?_) (fun hc77 => ?_)
              ·
                have hlt : j < l.length := by have := of_decide_eq_true hc77; omega
                have hrn : runs.length ≤ 1048576 := by have := hF.inv.runs_le; have := hF.len; simp at this; omega
                obtain ⟨b, off, rfl, hr⟩ := hI1.at hlt
                refine WC.skip ?_
                refine WX.thenC ?_
                refine WC.seq ?_
                refine WC.block ?_
                refine WC.drawE [12] 6 [(0, true), (1, true), (2, true), (3, true), (4, true), (5, true), (6, true), (7, true), (8, true), (9, true), (10, true), (11, true), (12, false)] mixed (by kernel_rfl) (fun hS => ?_)
                refine WO.quiet rfl (fun _ _ => ok_move rfl) hS rfl ?_
                refine WO.quiet rfl (fun _ _ => ok_move rfl) hS rfl ?_
                refine WO.quiet rfl (fun _ _ => ok_move rfl) hS rfl ?_
                refine WO.quiet rfl (fun _ _ => ok_indexS _ rfl rfl rfl (by omega) Try.underlying57 sz64) hS rfl ?_
                refine WO.quiet rfl (fun _ _ => ok_field rfl fld64_0) hS rfl ?_
                refine WO.quiet rfl (fun _ hw => ok_loadN rfl agg29 sz29 (by simp [ho _ (List.getElem_mem hlt)]) (Rd.kp (rd_key hr ho j hlt) hw (fun f => f))) hS rfl ?_
                refine WO.quiet rfl (fun _ _ => ok_move rfl) hS rfl ?_
                refine WO.quiet rfl (fun _ _ => ok_move rfl) hS rfl ?_
                refine WO.quiet rfl (fun _ _ => ok_indexS _ rfl rfl rfl (by omega) Try.underlying57 sz64) hS rfl ?_
                refine WO.quiet rfl (fun _ _ => ok_field rfl fld64_1) hS rfl ?_
                refine WO.quiet rfl (fun _ hw => ok_load rfl one9 (Kp.cell hw (rd_name hr ho j hlt) (fun f => f))) hS rfl ?_
                refine WO.quiet rfl (fun _ _ => build35 (ho _ (List.getElem_mem hlt)) rfl rfl) hS rfl ?_
                refine WO.loudCall rfl (ok_callF rfl isfn31) rfl (shelfPut l[j].key l[j].name [] none 0 (ho _ (List.getElem_mem hlt)) (hnm _ (List.getElem_mem hlt)) (by simp) _ (fun h => absurd rfl h) (hSh.ext (Kp.drew _ _)) (Nat.le_trans hlo43 hK.size) (hF.inv.mono (ho _ (List.getElem_mem hlt)) _) hF.inv.ne hF.inv.le hrn) ?_
                rintro v w62 ⟨rfl, hS62, hK62⟩
                refine ⟨(inL rfl), ?_⟩
                refine WO.nil ?_
                refine WX.blockN ?_
                refine WX.thenC ?_
                refine WC.region ?_
                refine WL.step (ok_move rfl) rfl ?_
                refine WL.step (ok_add ((j + 1 : Nat) : Int) rfl rfl (by omega) (by omega) (by omega)) rfl ?_
                refine WL.step (ok_assign rfl) rfl ?_
                refine WL.nil ?_
                exact WX.again (j + 1) (by repeat (first | exact trivial | refine ⟨rfl, ?_⟩)) ⟨by omega, _, hS62, by rw [map_take_succ l j hlt]; exact hF.put _ (ho _ (List.getElem_mem hlt)), hNV.put _ rfl, (hK.trans (Kp.drew _ _)).trans hK62⟩ (by omega)
              ·
                have hge : j = l.length := by have := of_decide_eq_false hc77; omega
                have hF1 : Fil runs (l.map pk) := by rw [hge, List.take_length] at hF; exact hF
                have hdl := ded_length_le (l.map pk)
                rw [List.length_map] at hdl
                refine WC.exit ?_
                refine WX.thenE ?_
                refine WX.thenE ?_
                refine WX.blockHit ?_
                refine WX.thenC ?_
                refine WC.seq ?_
                refine WC.region ?_
                refine WL.step (ok_assign rfl) rfl ?_
                refine WL.nil ?_
                refine WX.thenC ?_
                refine WC.seq ?_
                refine WC.region ?_
                refine WL.step (ok_assign rfl) rfl ?_
                refine WL.nil ?_
                refine WX.thenC ?_
                refine WC.seq ?_
                refine WC.seq ?_
                refine WC.region ?_
                refine WL.step (ok_assign rfl) rfl ?_
                refine WL.nil ?_
                refine WX.thenC ?_
                refine WC.block ?_
                refine WC.loop (fun x : Nat × Nat × Nat => [(0, .slice a' l.length cap'), (2, .string n), (3, .slice va' vl.length vcap'), (4, .int .u64 (t : Nat)), (6, .pointer (some ⟨b6, 0, none⟩)), (11, .pointer (some ⟨sb, 0, none⟩)), (13, .int .i64 (x.1 : Nat)), (14, .int .i64 (x.2.1 : Nat)), (15, .int .i64 (x.2.2 : Nat))])
                  (fun x w' => x.2.2 ≤ l.length ∧ x.1 ≤ x.2.2 ∧ x.2.1 ≤ x.2.2 ∧ x.1 + (ded ((l.drop x.2.2).map pk)).length = (ded (l.map pk)).length ∧ x.2.1 + (ded ((l.drop x.2.2).map pk)).countP (lt2 · (k, n.toList)) = (ded (l.map pk)).countP (lt2 · (k, n.toList)) ∧ Ext w2 w') (fun x => l.length - x.2.2) (0, 0, 0) (by repeat (first | exact trivial | refine ⟨rfl, ?_⟩)) ?_ ?_
                · exact ⟨by simp, by simp, by simp, by simp, by simp, Kp.refl _ _⟩
                rintro ⟨d, c, j⟩ w3 ⟨hjn2, hdj1, hcj1, hdd, hcc, hEc⟩
                dsimp only at hjn2 hdj1 hcj1 hdd hcc hEc
                dsimp only
                have hI2 := (hI1.ext hEc)
                have h4c := h4b.ext hEc
                refine WC.seq ?_
                refine WC.seq ?_
                refine WC.region ?_
                refine WL.step (ok_move rfl) rfl ?_
                refine WL.step (ok_move rfl) rfl ?_
                refine WL.step (ok_lenSlice rfl Try.underlying57) rfl ?_
                refine WL.step (ok_lss rfl rfl) rfl ?_
                refine WL.nil ?_
                refine WX.thenC ?_
                refine WC.cond rfl (fun hc96 => ?_) (fun hc96 => ?_)
                ·
                  have hlt : j < l.length := by have := of_decide_eq_true hc96; omega
                  obtain ⟨b, off, rfl, hr⟩ := hI2.at hlt
                  have hdj := ded_drop l j hlt
                  refine WC.skip ?_
                  refine WX.thenC ?_
                  refine WC.seq ?_
                  refine WC.block ?_
                  refine WC.seq ?_
                  refine WC.seq ?_
                  refine WC.region ?_
                  refine WL.step (ok_move rfl) rfl ?_
                  refine WL.step (ok_move rfl) rfl ?_
                  refine WL.call (ok_callF rfl isfn36) rfl (laterSamePair l ho _ cap' j hlt (by omega) _ hI2) ?_
                  rintro v w71 ⟨rfl, hE71⟩
                  refine WL.nil ?_
                  refine WX.thenC ?_
                  refine WC.cond rfl (fun hc101 => ?_) (fun hc101 => ?_)
                  ·
                    rw [hc101, if_pos rfl] at hdj
                    refine WC.exit ?_
                    refine WX.thenE ?_
                    refine WX.blockHit ?_
                    refine WX.thenC ?_
                    refine WC.region ?_
                    refine WL.step (ok_move rfl) rfl ?_
                    refine WL.step (ok_add ((j + 1 : Nat) : Int) rfl rfl (by omega) (by omega) (by omega)) rfl ?_
                    refine WL.step (ok_assign rfl) rfl ?_
                    refine WL.nil ?_
                    exact WX.again (d, c, j + 1) (by repeat (first | exact trivial | refine ⟨rfl, ?_⟩)) ⟨by show j + 1 ≤ _; omega, by show d ≤ j + 1; omega, by show c ≤ j + 1; omega, by rw [hdj] at hdd; exact hdd, by rw [hdj] at hcc; exact hcc, hEc.trans hE71⟩ (by show l.length - (j + 1) < l.length - j; omega)
                  ·
                    rw [hc101, if_neg (by decide)] at hdj
                    refine WC.skip ?_
                    refine WX.thenC ?_
                    refine WC.seq ?_
                    refine WC.region ?_
                    refine WL.step (ok_move rfl) rfl ?_
                    refine WL.step (ok_add ((d + 1 : Nat) : Int) rfl rfl (by omega) (by omega) (by omega)) rfl ?_
                    refine WL.step (ok_assign rfl) rfl ?_
                    refine WL.nil ?_
                    refine WX.thenC ?_
                    refine WC.seq ?_
                    refine WC.drawE [12] 5 [(0, true), (1, true), (2, true), (3, true), (4, true), (5, true), (6, true), (7, true), (8, true), (9, true), (10, true), (11, true), (12, false)] mixed (by kernel_rfl) (fun hS => ?_)
                    refine WO.quiet rfl (fun _ _ => ok_move rfl) hS rfl ?_
                    refine WO.quiet rfl (fun _ _ => ok_move rfl) hS rfl ?_
                    refine WO.quiet rfl (fun _ _ => ok_indexS _ rfl rfl rfl (by omega) Try.underlying57 sz64) hS rfl ?_
                    refine WO.quiet rfl (fun _ _ => ok_field rfl fld64_0) hS rfl ?_
                    refine WO.quiet rfl (fun _ hw => ok_loadN rfl agg29 sz29 (by simp [ho _ (List.getElem_mem hlt)]) (Rd.kp (rd_key (hr.kp hE71 (fun f => f)) ho j hlt) hw (fun f => f))) hS rfl ?_
                    refine WO.quiet rfl (fun _ _ => ok_move rfl) hS rfl ?_
                    refine WO.quiet rfl (fun _ _ => ok_move rfl) hS rfl ?_
                    refine WO.quiet rfl (fun _ _ => ok_indexS _ rfl rfl rfl (by omega) Try.underlying57 sz64) hS rfl ?_
                    refine WO.quiet rfl (fun _ _ => ok_field rfl fld64_1) hS rfl ?_
                    refine WO.quiet rfl (fun _ hw => ok_load rfl one9 (Kp.cell hw (rd_name (hr.kp hE71 (fun f => f)) ho j hlt) (fun f => f))) hS rfl ?_
                    refine WO.quiet rfl (fun _ hw => ok_loadN rfl agg29 sz29 (by simp [hk]) (Rd.kp ((h4c.ext hE71).rd0) hw (fun f => f))) hS rfl ?_
                    refine WO.quiet rfl (fun _ _ => ok_move rfl) hS rfl ?_
                    refine WO.loudCall rfl (ok_callF rfl isfn20) rfl (lessPair l[j].key k l[j].name n (ho _ (List.getElem_mem hlt)) hk _) ?_
                    rintro v w86 ⟨rfl, hE86⟩
                    refine ⟨(inL rfl), ?_⟩
                    refine WO.nil ?_
                    refine WX.thenC ?_
                    refine WC.cond rfl (fun hc116 => ?_) (fun hc116 => ?_)
                    ·
                      refine WC.region ?_
                      refine WL.step (ok_move rfl) rfl ?_
                      refine WL.step (ok_add ((c + 1 : Nat) : Int) rfl rfl (by omega) (by omega) (by omega)) rfl ?_
                      refine WL.step (ok_assign rfl) rfl ?_
                      refine WL.nil ?_
                      refine WX.blockN ?_
                      refine WX.thenC ?_
                      refine WC.region ?_
                      refine WL.step (ok_move rfl) rfl ?_
                      refine WL.step (ok_add ((j + 1 : Nat) : Int) rfl rfl (by omega) (by omega) (by omega)) rfl ?_
                      refine WL.step (ok_assign rfl) rfl ?_
                      refine WL.nil ?_
                      exact WX.again (d + 1, c + 1, j + 1) (by repeat (first | exact trivial | refine ⟨rfl, ?_⟩)) ⟨by show j + 1 ≤ _; omega, by show d + 1 ≤ j + 1; omega, by show c + 1 ≤ j + 1; omega, cntLen hdj hdd, cntPos hdj (show lt2 (pk l[j]) (k, n.toList) = true from hc116) hcc, ((hEc.trans hE71).trans (Kp.drew _ _)).trans hE86⟩ (by show l.length - (j + 1) < l.length - j; omega)
                    ·
                      refine WC.skip ?_
                      refine WX.blockN ?_
                      refine WX.thenC ?_
                      refine WC.region ?_
                      refine WL.step (ok_move rfl) rfl ?_
                      refine WL.step (ok_add ((j + 1 : Nat) : Int) rfl rfl (by omega) (by omega) (by omega)) rfl ?_
                      refine WL.step (ok_assign rfl) rfl ?_
                      refine WL.nil ?_
                      exact WX.again (d + 1, c, j + 1) (by repeat (first | exact trivial | refine ⟨rfl, ?_⟩)) ⟨by show j + 1 ≤ _; omega, by show d + 1 ≤ j + 1; omega, by show c ≤ j + 1; omega, cntLen hdj hdd, cntNeg hdj (show lt2 (pk l[j]) (k, n.toList) = false from hc116) hcc, ((hEc.trans hE71).trans (Kp.drew _ _)).trans hE86⟩ (by show l.length - (j + 1) < l.length - j; omega)
                ·
                  have hge2 : j = l.length := by have := of_decide_eq_false hc96; omega
                  have hd2 : d = (ded (l.map pk)).length := by rw [hge2, List.drop_length] at hdd; simpa [ded] using hdd
                  have hcr : c = cntF (geP k n.toList) runs.flatten := by rw [hge2, List.drop_length] at hcc; rw [cntF_rank, hF1.count]; simpa [ded] using hcc
                  have hSh1 := hSh
                  have hEx := hEc
                  have hS1 := hSh1.ext hEx
                  obtain ⟨hd, rs, g, hOs, hRs, hnf, rfl, hlsb, hlfp⟩ := hS1
                  obtain ⟨ha, hcap, rfl⟩ := hRs.hdl
                  have hrsl : rs.length ≤ l.length := by have := hF1.inv.runs_le; have := hF1.len; rw [slots_length] at *; simp at this; omega
                  have hlen : (lens (slots rs)).length = rs.length := by simp [lens, slots]
                  have hsm : sumL (lens (slots rs)) ≤ 4096 := by have := hF1.sum; omega
                  obtain ⟨N, hN⟩ : ∃ N, N = (slots rs).flatten.length := ⟨_, rfl⟩
                  have hNs : sumL (lens (slots rs)) = N := by rw [hN, flat_len]
                  have hFk : ∀ s ∈ (slots rs).flatten, s.key.length = 20 := fun s hs => hF1.inv.key (ps s) (by unfold prs; exact List.mem_map_of_mem hs)
                  have hcN : c ≤ N := by rw [hcr, hN]; exact List.countP_le_length
                  refine WC.exit ?_
                  refine WX.thenE ?_
                  refine WX.thenE ?_
                  refine WX.blockHit ?_
                  refine WX.thenC ?_
                  refine WC.seq ?_
                  refine WC.region ?_
                  refine WL.step (ok_move rfl) rfl ?_
                  refine WL.call (ok_callF rfl isfn21) rfl (shelfRuns sb 0 _ _ (by rw [hOs.cell]; rfl)) ?_
                  rintro v w96 ⟨rfl, hw96⟩
                  subst hw96
                  refine WL.step (ok_assign rfl) rfl ?_
                  refine WL.nil ?_
                  refine WX.thenC ?_
                  refine WC.seq ?_
                  refine WC.seq ?_
                  refine WC.region ?_
                  refine WL.step (ok_move rfl) rfl ?_
                  refine WL.step (ok_lenSlice rfl Try.underlying45) rfl ?_
                  refine WL.step (ok_move rfl) rfl ?_
                  refine WL.step (ok_lenSlice rfl Try.underlying57) rfl ?_
                  refine WL.step (ok_gtr rfl rfl) rfl ?_
                  refine WL.nil ?_
                  refine WX.thenC ?_
                  refine WC.condFb rfl (decide_eq_false (by omega)) ?_
                  refine WC.skip ?_
                  refine WX.thenC ?_
                  refine WC.seq ?_
                  refine WC.region ?_
                  refine WL.step (ok_move rfl) rfl ?_
                  refine WL.step (ok_lenSlice rfl Try.underlying45) rfl ?_
                  refine WL.rew 127 (.int .i64 ((lens (slots rs)).length : Nat)) rfl (by rw [hlen]) ?_
                  refine WL.make ((lens (slots rs)).length) elt43 rfl (by omega) (by omega) rfl ?_
                  intro b128 w128 c128 hb128 ho128 hl128 hz128 hk128 hs128
                  refine WL.step (ok_assign rfl) rfl ?_
                  refine WL.nil ?_
                  refine WX.thenC ?_
                  refine WC.seq ?_
                  refine WC.region ?_
                  refine WL.step (ok_assign rfl) rfl ?_
                  refine WL.nil ?_
                  refine WX.thenC ?_
                  refine WC.seq ?_
                  refine WC.seq ?_
                  refine WC.region ?_
                  refine WL.step (ok_assign rfl) rfl ?_
                  refine WL.nil ?_
                  refine WX.thenC ?_
                  refine WC.block ?_
                  refine WC.loop (fun j : Nat => [(2, .string n), (3, .slice va' vl.length vcap'), (4, .int .u64 (t : Nat)), (6, .pointer (some ⟨b6, 0, none⟩)), (11, .pointer (some ⟨sb, 0, none⟩)), (13, .int .i64 (d : Nat)), (14, .int .i64 (c : Nat)), (16, .slice ha rs.length hcap), (17, .slice (some ⟨b128, 0, none⟩) (lens (slots rs)).length (lens (slots rs)).length), (18, .int .i64 (sumL ((lens (slots rs)).take j) : Nat)), (19, .int .i64 (j : Nat))])
                    (fun j w' => j ≤ rs.length ∧ (∃ rest, Own w' b128 3 (nc ((lens (slots rs)).take j) ++ rest) ∧ rest.length = rs.length - j) ∧ Ext w96 w') (fun j => rs.length - j) 0 (by repeat (first | exact trivial | refine ⟨rfl, ?_⟩)) ?_ ?_
                  · exact ⟨by omega, ⟨c128, by simpa [nc] using ho128, by simp [hl128, hlen]⟩, hk128⟩
                  rintro j w4 ⟨hjn3, ⟨rest, hOl, hrest⟩, hE2⟩
                  refine WC.seq ?_
                  refine WC.seq ?_
                  refine WC.region ?_
                  refine WL.step (ok_move rfl) rfl ?_
                  refine WL.step (ok_move rfl) rfl ?_
                  refine WL.step (ok_lenSlice rfl Try.underlying45) rfl ?_
                  refine WL.step (ok_lss rfl rfl) rfl ?_
                  refine WL.nil ?_
                  refine WX.thenC ?_
                  refine WC.cond rfl (fun hc132 => ?_) (fun hc132 => ?_)
                  ·
                    have hlt : j < rs.length := by have := of_decide_eq_true hc132; omega
                    obtain ⟨gb, hcap', spg, heq, rfl, hOg, hcl⟩ := (hRs.ext hE2).hd (by intro e; rw [e] at hlt; simp at hlt)
                    cases heq
                    refine WC.skip ?_
                    refine WX.thenC ?_
                    refine WC.seq ?_
                    refine WC.block ?_
                    refine WC.seq ?_
                    refine WC.region ?_
                    refine WL.step (ok_move rfl) rfl ?_
                    refine WL.step (ok_move rfl) rfl ?_
                    refine WL.step (ok_move rfl) rfl ?_
                    refine WL.step (ok_move rfl) rfl ?_
                    refine WL.step (ok_indexS _ rfl rfl rfl (by omega) Try.underlying45 sz49) rfl ?_
                    refine WL.step (ok_load rfl one49 (rd_hdr hOg j hlt)) rfl ?_
                    refine WL.step (ok_lenSlice rfl Try.underlying49) rfl ?_
                    refine WL.step (ok_indexS _ rfl rfl rfl (by omega) Try.underlying43 sz3) rfl ?_
                    refine WL.store rfl rfl sz3 (hOl) (by simp [Value.cells]) (by simp [Value.cells]; omega) (by simp [Value.cells, Value.oneCell']) ?_
                    intro wr33 hor33 hkr33 hsr33
                    have hor33' : Own wr33 b128 3 (nc ((lens (slots rs)).take (j + 1)) ++ rest.drop 1) := by
                      have := hor33
                      simp only [Value.cells] at this
                      rw [← nc_take_succ (lens (slots rs)) j (by omega) rest rs[j].sl.length (by simp [lens, slots])]
                      exact this
                    have hcl33 : wr33.cell? ⟨b128, 0 + j * 1, none⟩ = some (.int .i64 (rs[j].sl.length : Nat)) := by
                      have := rd_nat (hor33'.rd0.append_left) j (by simp; omega)
                      simpa [lens, slots] using this
                    have hsj := sumL_take_succ (lens (slots rs)) j (by omega)
                    have hsj2 : (lens (slots rs))[j]'(by omega) = rs[j].sl.length := by simp [lens, slots]
                    rw [hsj2] at hsj
                    have hsj3 := sumL_take_le (lens (slots rs)) (j + 1)
                    refine WL.nil ?_
                    refine WX.thenC ?_
                    refine WC.region ?_
                    refine WL.step (ok_move rfl) rfl ?_
                    refine WL.step (ok_move rfl) rfl ?_
                    refine WL.step (ok_move rfl) rfl ?_
                    refine WL.step (ok_indexS _ rfl rfl rfl (by omega) Try.underlying43 sz3) rfl ?_
                    refine WL.step (ok_load rfl one3 (hcl33)) rfl ?_
                    refine WL.step (ok_add ((sumL ((lens (slots rs)).take (j + 1)) : Nat) : Int) rfl rfl (by omega) (by omega) (by omega)) rfl ?_
                    refine WL.step (ok_assign rfl) rfl ?_
                    refine WL.nil ?_
                    refine WX.blockN ?_
                    refine WX.thenC ?_
                    refine WC.region ?_
                    refine WL.step (ok_move rfl) rfl ?_
                    refine WL.step (ok_add ((j + 1 : Nat) : Int) rfl rfl (by omega) (by omega) (by omega)) rfl ?_
                    refine WL.step (ok_assign rfl) rfl ?_
                    refine WL.nil ?_
                    exact WX.again (j + 1) (by repeat (first | exact trivial | refine ⟨rfl, ?_⟩)) ⟨by omega, ⟨rest.drop 1, hor33', by simp [hrest]; omega⟩, hE2.over hkr33 (fun i hi e => by omega)⟩ (by omega)
                  ·
                    have hge3 : j = rs.length := by have := of_decide_eq_false hc132; omega
                    have hheld : sumL ((lens (slots rs)).take j) = N := by rw [hge3, sumL_take_all _ _ (by omega), hNs]
                    have hdN : d = N := by rw [hd2, ← hF1.sum, hNs]
                    have hRl : Rd w4 b128 0 (nc (lens (slots rs))) := by rw [hge3, ← hlen, List.take_length] at hOl; exact hOl.rd0.append_left
                    rw [hheld]
                    refine WC.exit ?_
                    refine WX.thenE ?_
                    refine WX.thenE ?_
                    refine WX.blockHit ?_
                    refine WX.thenC ?_
                    refine WC.seq ?_
                    refine WC.seq ?_
                    refine WC.region ?_
                    refine WL.step (ok_move rfl) rfl ?_
                    refine WL.step (ok_move rfl) rfl ?_
                    refine WL.step (ok_neq rfl rfl) rfl ?_
                    refine WL.nil ?_
                    refine WX.thenC ?_
                    refine WC.condFb rfl (by rw [hdN]; simp) ?_
                    refine WC.skip ?_
                    refine WX.thenC ?_
                    refine WC.seq ?_
                    refine WC.region ?_
                    refine WL.step (ok_move rfl) rfl ?_
                    refine WL.make (N) elt75 rfl (by omega) (by omega) rfl ?_
                    intro b153 w153 c153 hb153 ho153 hl153 hz153 hk153 hs153
                    refine WL.step (ok_assign rfl) rfl ?_
                    refine WL.nil ?_
                    refine WX.thenC ?_
                    refine WC.seq ?_
                    refine WC.region ?_
                    refine WL.step (ok_move rfl) rfl ?_
                    refine WL.make (N) elt76 rfl (by omega) (by omega) rfl ?_
                    intro b155 w155 c155 hb155 ho155 hl155 hz155 hk155 hs155
                    refine WL.step (ok_assign rfl) rfl ?_
                    refine WL.nil ?_
                    refine WX.thenC ?_
                    refine WC.seq ?_
                    refine WC.region ?_
                    refine WL.step (ok_move rfl) rfl ?_
                    refine WL.make (N) elt77 rfl (by omega) (by omega) rfl ?_
                    intro b157 w157 c157 hb157 ho157 hl157 hz157 hk157 hs157
                    have hEm : Ext w4 w157 := (hk153.trans hk155).trans hk157
                    have hO0 : Old3 w157 b153 b155 b157 (slots rs).flatten 0 := ⟨⟨c153, by simpa using (ho153.ext hk155).ext hk157, by rw [← hN]; simpa using hl153⟩, ⟨c155, by simpa using ho155.ext hk157, by rw [← hN]; simpa using hl155⟩, ⟨c157, by simpa using ho157, by rw [← hN]; simpa using hl157⟩⟩
                    have hz4 := hk153.size
                    have hz5 := hk155.size
                    refine WL.step (ok_assign rfl) rfl ?_
                    refine WL.nil ?_
                    refine WX.thenC ?_
                    refine WC.seq ?_
                    refine WC.region ?_
                    refine WL.step (ok_assign rfl) rfl ?_
                    refine WL.nil ?_
                    refine WX.thenC ?_
                    refine WC.seq ?_
                    refine WC.seq ?_
                    refine WC.region ?_
                    refine WL.step (ok_assign rfl) rfl ?_
                    refine WL.nil ?_
                    refine WX.thenC ?_
                    refine WC.block ?_
                    refine WC.loop (fun j : Nat => [(2, .string n), (3, .slice va' vl.length vcap'), (4, .int .u64 (t : Nat)), (6, .pointer (some ⟨b6, 0, none⟩)), (11, .pointer (some ⟨sb, 0, none⟩)), (14, .int .i64 (c : Nat)), (16, .slice ha rs.length hcap), (17, .slice (some ⟨b128, 0, none⟩) (lens (slots rs)).length (lens (slots rs)).length), (18, .int .i64 (N : Nat)), (20, .slice (some ⟨b153, 0, none⟩) N N), (21, .slice (some ⟨b155, 0, none⟩) N N), (22, .slice (some ⟨b157, 0, none⟩) N N), (23, .int .i64 (sumL ((lens (slots rs)).take j) : Nat)), (24, .int .i64 (j : Nat))])
                      (fun j w' => j ≤ rs.length ∧ Old3 w' b153 b155 b157 (slots rs).flatten (sumL ((lens (slots rs)).take j)) ∧ Ext w4 w') (fun j => rs.length - j) 0 (by repeat (first | exact trivial | refine ⟨rfl, ?_⟩)) ?_ ?_
                    · exact ⟨by omega, by simpa [sumL] using hO0, hEm⟩
                    rintro j w5 ⟨hjn5, hO5, hE5⟩
                    refine WC.seq ?_
                    refine WC.seq ?_
                    refine WC.region ?_
                    refine WL.step (ok_move rfl) rfl ?_
                    refine WL.step (ok_move rfl) rfl ?_
                    refine WL.step (ok_lenSlice rfl Try.underlying45) rfl ?_
                    refine WL.step (ok_lss rfl rfl) rfl ?_
                    refine WL.nil ?_
                    refine WX.thenC ?_
                    refine WC.cond rfl (fun hc161 => ?_) (fun hc161 => ?_)
                    ·
                      have hlt : j < rs.length := by have := of_decide_eq_true hc161; omega
                      have hsj := sumL_take_succ (lens (slots rs)) j (by omega)
                      have hsj2 : (lens (slots rs))[j]'(by omega) = rs[j].sl.length := by simp [lens, slots]
                      rw [hsj2] at hsj
                      have hsj3 := sumL_take_le (lens (slots rs)) (j + 1)
                      refine WC.skip ?_
                      refine WX.thenC ?_
                      refine WC.seq ?_
                      refine WC.block ?_
                      refine WC.seq ?_
                      refine WC.region ?_
                      refine WL.step (ok_assign rfl) rfl ?_
                      refine WL.nil ?_
                      refine WX.thenC ?_
                      refine WC.block ?_
                      refine WC.loop (fun i : Nat => [(2, .string n), (3, .slice va' vl.length vcap'), (4, .int .u64 (t : Nat)), (6, .pointer (some ⟨b6, 0, none⟩)), (11, .pointer (some ⟨sb, 0, none⟩)), (14, .int .i64 (c : Nat)), (16, .slice ha rs.length hcap), (17, .slice (some ⟨b128, 0, none⟩) (lens (slots rs)).length (lens (slots rs)).length), (18, .int .i64 (N : Nat)), (20, .slice (some ⟨b153, 0, none⟩) N N), (21, .slice (some ⟨b155, 0, none⟩) N N), (22, .slice (some ⟨b157, 0, none⟩) N N), (23, .int .i64 ((sumL ((lens (slots rs)).take j) + i : Nat) : Int)), (24, .int .i64 (j : Nat)), (25, .int .i64 (i : Nat))])
                        (fun i w' => i ≤ rs[j].sl.length ∧ Old3 w' b153 b155 b157 (slots rs).flatten (sumL ((lens (slots rs)).take j) + i) ∧ Ext w4 w') (fun i => rs[j].sl.length - i) 0 (by repeat (first | exact trivial | refine ⟨rfl, ?_⟩)) ?_ ?_
                      · exact ⟨by omega, hO5, hE5⟩
                      rintro i w6 ⟨hin, hO6, hE6⟩
                      have hE46 := hE2.trans hE6
                      obtain ⟨gb6, hcap6, spg6, heq6, hg6, hOg6, hcl6⟩ := (hRs.ext hE46).hd (by intro e; rw [e] at hlt; simp at hlt)
                      cases heq6
                      have hrun := (hRs.ext hE46).run rs[j] (List.getElem_mem hlt)
                      refine WC.seq ?_
                      refine WC.seq ?_
                      refine WC.region ?_
                      refine WL.step (ok_move rfl) rfl ?_
                      refine WL.step (ok_move rfl) rfl ?_
                      refine WL.step (ok_move rfl) rfl ?_
                      refine WL.step (ok_indexS _ rfl rfl rfl (by omega) Try.underlying45 sz49) rfl ?_
                      refine WL.step (ok_load rfl one49 (rd_hdr hOg6 j hlt)) rfl ?_
                      refine WL.step (ok_lenSlice rfl Try.underlying49) rfl ?_
                      refine WL.step (ok_lss rfl rfl) rfl ?_
                      refine WL.nil ?_
                      refine WX.thenC ?_
                      refine WC.cond rfl (fun hc170 => ?_) (fun hc170 => ?_)
                      ·
                        have hi : i < rs[j].sl.length := by have := of_decide_eq_true hc170; omega
                        obtain ⟨pos, hpos⟩ : ∃ p, p = sumL ((lens (slots rs)).take j) + i := ⟨_, rfl⟩
                        rw [← hpos] at hO6
                        have hposl : pos < (slots rs).flatten.length := by omega
                        obtain ⟨S, hS⟩ : ∃ S, S = rs[j].sl[i] := ⟨_, rfl⟩
                        have hFS : (slots rs).flatten[pos] = S := by
                          have h1 := flat_get (slots rs) j i (by rw [slots_length]; exact hlt) (by simpa [slots] using hi)
                          rw [← hpos, List.getElem?_eq_getElem hposl] at h1
                          simp only [Option.some.injEq] at h1
                          rw [h1, hS]; simp [slots]
                        have hokS : OkSl S := by rw [hS]; exact hrun.1 _ (List.getElem_mem hi)
                        have hslot : Rd w6 rs[j].b (0 + i * 23) S.cells := by rw [hS]; exact hrun.slot i hi
                        have hslen : S.cells.length = 23 := by rw [hS]; exact Slot.len hrun.1 _ (List.getElem_mem hi)
                        have helen : S.ent.length = 22 := by simp [Slot.ent, hokS.1]
                        obtain ⟨⟨q1, hO61, hq1⟩, ⟨q2, hO62, hq2⟩, ⟨q3, hO63, hq3⟩⟩ := hO6
                        have hf1 : ∀ s ∈ (slots rs).flatten, (k1 s).length = 20 := fun s hs => by simp [k1, hFk s hs]
                        refine WC.skip ?_
                        refine WX.thenC ?_
                        refine WC.seq ?_
                        refine WC.block ?_
                        refine WC.seq ?_
                        refine WC.region ?_
                        refine WL.step (ok_move rfl) rfl ?_
                        refine WL.step (ok_move rfl) rfl ?_
                        refine WL.step (ok_indexS _ rfl rfl rfl (by omega) Try.underlying45 sz49) rfl ?_
                        refine WL.step (ok_load rfl one49 (rd_hdr hOg6 j hlt)) rfl ?_
                        refine WL.step (ok_move rfl) rfl ?_
                        refine WL.step (ok_indexS i rfl rfl rfl (by omega) Try.underlying49 sz54) rfl ?_
                        refine WL.step (ok_loadN rfl agg54 sz54 hslen (hslot)) rfl ?_
                        refine WL.call (ok_callF rfl isfn24) rfl (slotEntry S hokS _) ?_
                        rintro v w180 ⟨rfl, hE180⟩
                        refine WL.alloc zero35 rfl ?_
                        intro b26 w26 hb26 ho26 hk26 hs26
                        refine WL.store rfl rfl sz35 (ho26) (by simpa [Value.cells] using helen) (by simp [Value.cells, helen]) (ent_one hokS) ?_
                        intro wr47 hor47 hkr47 hsr47
                        have h26 : Own wr47 b26 35 S.ent := by
                          have := hor47
                          simp only [Value.cells] at this
                          rw [splice_all _ _ (by simp [helen])] at this
                          exact this
                        have hE47 : Ext w6 wr47 := (hE180.trans hk26).over hkr47 (fun i hi e => by have := hE180.size; omega)
                        have hl1 := hO61.lt
                        have hl2 := hO62.lt
                        have hl3 := hO63.lt
                        have hz6 := hE180.size
                        have d1 : b26 ≠ b153 := by omega
                        have d2 : b26 ≠ b155 := by omega
                        have hlf : ((slots rs).flatten.take pos).length = pos := by rw [List.length_take, Nat.min_eq_left (by omega)]
                        have hfl1 : (((slots rs).flatten.take pos).flatMap k1).length = pos * 20 := by rw [flatMap_length k1 20 _ (fun a ha => hf1 a (List.mem_of_mem_take ha)), hlf]
                        have hfl2 : (((slots rs).flatten.take pos).flatMap k2).length = pos * 1 := by rw [flatMap_length k2 1 _ (fun a ha => rfl), hlf]
                        have hfl3 : (((slots rs).flatten.take pos).flatMap k3).length = pos * 1 := by rw [flatMap_length k3 1 _ (fun a ha => rfl), hlf]
                        refine WL.nil ?_
                        refine WX.thenC ?_
                        refine WC.seq ?_
                        refine WC.region ?_
                        refine WL.step (ok_move rfl) rfl ?_
                        refine WL.step (ok_move rfl) rfl ?_
                        refine WL.step (ok_field rfl fld35_0) rfl ?_
                        refine WL.step (ok_loadN rfl agg33 sz33 (by simp [hokS.1]) (rd_ekey h26.rd0)) rfl ?_
                        refine WL.step (ok_indexS pos rfl rfl (by rw [hpos]) (by omega) Try.underlying75 sz29) rfl ?_
                        refine WL.store rfl rfl sz29 (hO61.ext hE47) (by simp [Value.cells, hokS.1]) (by simp only [Value.cells, List.length_append, hfl1, hq1, List.toList_toArray, kc_length, hokS.1]; omega) (kc_one _) ?_
                        intro wr48 hor48 hkr48 hsr48
                        have h48' : Own wr48 b153 29 (((slots rs).flatten.take (pos + 1)).flatMap k1 ++ q1.drop 20) := by
                          have := hor48
                          simp only [Value.cells] at this
                          rw [← enc_take_succ k1 20 _ hf1 pos hposl q1 (kc S.key) (by rw [hFS]; rfl)]
                          exact this
                        have h26b := hkr48.own h26 d1
                        refine WL.nil ?_
                        refine WX.thenC ?_
                        refine WC.seq ?_
                        refine WC.region ?_
                        refine WL.step (ok_move rfl) rfl ?_
                        refine WL.step (ok_move rfl) rfl ?_
                        refine WL.step (ok_field rfl fld35_1) rfl ?_
                        refine WL.step (ok_load rfl one9 (rd_ename h26b.rd0 hokS.1)) rfl ?_
                        refine WL.step (ok_indexS pos rfl rfl (by rw [hpos]) (by omega) Try.underlying76 sz9) rfl ?_
                        refine WL.store rfl rfl sz9 (hkr48.own (hO62.ext hE47) (by omega)) (by simp [Value.cells]) (by simp only [Value.cells, List.length_append, hfl2, hq2, List.toList_toArray, List.length_cons, List.length_nil]; omega) (by simp [Value.cells, Value.oneCell']) ?_
                        intro wr49 hor49 hkr49 hsr49
                        have h49' : Own wr49 b155 9 (((slots rs).flatten.take (pos + 1)).flatMap k2 ++ q2.drop 1) := by
                          have := hor49
                          simp only [Value.cells] at this
                          rw [← enc_take_succ k2 1 _ (fun a ha => rfl) pos hposl q2 [.string S.name] (by rw [hFS]; rfl)]
                          exact this
                        have hE49 : Ext w4 wr49 := ((hE6.trans hE47).over hkr48 (fun i hi e => by omega)).over hkr49 (fun i hi e => by omega)
                        have hR49 := hRs.ext (hE2.trans hE49)
                        obtain ⟨gb9, hcap9, spg9, heq9, hg9, hOg9, hcl9⟩ := hR49.hd (by intro e; rw [e] at hlt; simp at hlt)
                        cases heq9
                        have hslot9 : Rd wr49 rs[j].b (0 + i * 23) S.cells := by rw [hS]; exact (hR49.run rs[j] (List.getElem_mem hlt)).slot i hi
                        refine WL.nil ?_
                        refine WX.thenC ?_
                        refine WC.seq ?_
                        refine WC.region ?_
                        refine WL.step (ok_move rfl) rfl ?_
                        refine WL.step (ok_move rfl) rfl ?_
                        refine WL.step (ok_move rfl) rfl ?_
                        refine WL.step (ok_move rfl) rfl ?_
                        refine WL.step (ok_indexS _ rfl rfl rfl (by omega) Try.underlying45 sz49) rfl ?_
                        refine WL.step (ok_load rfl one49 (rd_hdr hOg9 j hlt)) rfl ?_
                        refine WL.step (ok_move rfl) rfl ?_
                        refine WL.step (ok_indexS i rfl rfl rfl (by omega) Try.underlying49 sz54) rfl ?_
                        refine WL.step (ok_loadN rfl agg54 sz54 hslen (hslot9)) rfl ?_
                        refine WL.call (ok_callF rfl isfn25) rfl (slotTerm S hokS _) ?_
                        rintro v w200 ⟨rfl, hE200⟩
                        refine WL.step (ok_indexS pos rfl rfl (by rw [hpos]) (by omega) Try.underlying77 sz52) rfl ?_
                        refine WL.store rfl rfl sz52 ((hkr49.own (hkr48.own (hO63.ext hE47) (by omega)) (by omega)).ext hE200) (by simp [Value.cells]) (by simp only [Value.cells, List.length_append, hfl3, hq3, List.toList_toArray, List.length_cons, List.length_nil]; omega) (by simp [Value.cells, Value.oneCell']) ?_
                        intro wr50 hor50 hkr50 hsr50
                        have h50' : Own wr50 b157 52 (((slots rs).flatten.take (pos + 1)).flatMap k3 ++ q3.drop 1) := by
                          have := hor50
                          simp only [Value.cells] at this
                          rw [← enc_take_succ k3 1 _ (fun a ha => rfl) pos hposl q3 [.int .u64 S.term] (by rw [hFS]; rfl)]
                          exact this
                        have hE50 : Ext w4 wr50 := (hE49.trans hE200).over hkr50 (fun i hi e => by omega)
                        have h48' := hkr50.own ((hkr49.own h48' (by omega)).ext hE200) (by omega)
                        have h49' := hkr50.own (h49'.ext hE200) (by omega)
                        have hpe1 : sumL ((lens (slots rs)).take j) + (i + 1) = pos + 1 := by omega
                        refine WL.nil ?_
                        refine WX.thenC ?_
                        refine WC.region ?_
                        refine WL.step (ok_move rfl) rfl ?_
                        refine WL.step (ok_add ((sumL ((lens (slots rs)).take j) + (i + 1) : Nat) : Int) rfl rfl (by omega) (by omega) (by omega)) rfl ?_
                        refine WL.step (ok_assign rfl) rfl ?_
                        refine WL.nil ?_
                        refine WX.blockN ?_
                        refine WX.thenC ?_
                        refine WC.region ?_
                        refine WL.step (ok_move rfl) rfl ?_
                        refine WL.step (ok_add ((i + 1 : Nat) : Int) rfl rfl (by omega) (by omega) (by omega)) rfl ?_
                        refine WL.step (ok_assign rfl) rfl ?_
                        refine WL.nil ?_
                        exact WX.again (i + 1) (by repeat (first | exact trivial | refine ⟨rfl, ?_⟩)) ⟨by omega, by rw [hpe1]; exact ⟨⟨_, h48', by rw [List.length_drop, hq1]; omega⟩, ⟨_, h49', by rw [List.length_drop, hq2]; omega⟩, ⟨_, h50', by rw [List.length_drop, hq3]; omega⟩⟩, hE50⟩ (by omega)
                      ·
                        have hie : i = rs[j].sl.length := by have := of_decide_eq_false hc170; omega
                        have hpe : sumL ((lens (slots rs)).take j) + i = sumL ((lens (slots rs)).take (j + 1)) := by omega
                        rw [hpe] at hO6 ⊢
                        refine WC.exit ?_
                        refine WX.thenE ?_
                        refine WX.thenE ?_
                        refine WX.blockHit ?_
                        refine WX.blockN ?_
                        refine WX.thenC ?_
                        refine WC.region ?_
                        refine WL.step (ok_move rfl) rfl ?_
                        refine WL.step (ok_add ((j + 1 : Nat) : Int) rfl rfl (by omega) (by omega) (by omega)) rfl ?_
                        refine WL.step (ok_assign rfl) rfl ?_
                        refine WL.nil ?_
                        exact WX.again (j + 1) (by repeat (first | exact trivial | refine ⟨rfl, ?_⟩)) ⟨by omega, hO6, hE6⟩ (by omega)
                    ·
                      have hge5 : j = rs.length := by have := of_decide_eq_false hc161; omega
                      have hON : Old3 w5 b153 b155 b157 (slots rs).flatten N := by rw [hge5, sumL_take_all _ _ (by omega), hNs] at hO5; exact hO5
                      obtain ⟨r, i, hpl⟩ : ∃ r i, placeOf (lens (slots rs)) c = (r, i) := ⟨_, _, rfl⟩
                      have hpl2 : placeOf (lens (slots rs)) (cntF (geP k n.toList) (slots rs).flatten) = (r, i) := by rw [← hcr]; exact hpl
                      have hrle : r ≤ (lens (slots rs)).length := by have := placeOf_le (lens (slots rs)) c; rw [hpl] at this; exact this
                      refine WC.exit ?_
                      refine WX.thenE ?_
                      refine WX.thenE ?_
                      refine WX.blockHit ?_
                      refine WX.thenC ?_
                      refine WC.seq ?_
                      refine WC.region ?_
                      refine WL.step (ok_move rfl) rfl ?_
                      refine WL.step (ok_move rfl) rfl ?_
                      refine WL.call (ok_callF rfl isfn33) rfl (placeOfW (lens (slots rs)) c b128 0 _ (by omega) (by omega) (by omega) _ (hRl.kp hE5 (fun f => f))) ?_
                      rintro v w207 ⟨hv207, hE207⟩
                      simp only [hpl] at hv207
                      subst hv207
                      have hEy6 := ((hEx.trans hE2).trans hE5).trans hE207
                      have h46 := h4b.ext hEy6
                      have hlo6 : lo ≤ w207.heap.size := Nat.le_trans hlo43 (Nat.le_trans hK.size hEy6.size)
                      have hz2 := (hEx.trans hE2).size
                      have hV6 := hVb.ext hEy6
                      have hposr : ∀ (h : r < (slots rs).length), i ≤ (slots rs)[r].length := by
                        intro h
                        have := placeOf_snd (lens (slots rs)) c (slots rs)[r].length (by rw [hpl]; simp [lens, h])
                        rw [hpl] at this
                        exact Nat.le_of_lt this
                      refine WL.step (ok_move rfl) rfl ?_
                      refine WL.step (ok_extract rfl rfl) rfl ?_
                      refine WL.step (ok_extract rfl rfl) rfl ?_
                      refine WL.step (ok_assign rfl) rfl ?_
                      refine WL.step (ok_assign rfl) rfl ?_
                      refine WL.nil ?_
                      refine WX.thenC ?_
                      refine WC.seq ?_
                      refine WC.region ?_
                      refine WL.step (ok_move rfl) rfl ?_
                      refine WL.step (ok_move rfl) rfl ?_
                      refine WL.step (ok_move rfl) rfl ?_
                      refine WL.step (ok_loadN rfl agg29 sz29 (by simp [hk]) (h46.rd0)) rfl ?_
                      refine WL.step (ok_move rfl) rfl ?_
                      refine WL.step (ok_move rfl) rfl ?_
                      refine WL.step (build35v hk rfl rfl rfl) rfl ?_
                      refine WL.step (ok_move rfl) rfl ?_
                      refine WL.call (ok_callF rfl isfn41) rfl (shelfInsertH r i k n (.slice va' vl.length vcap') t hk rfl _ (hSh1.high.ext hEy6) hlo6 hposr (by rw [hlen, ← slots_length] at hrle; exact hrle) hF1.inv.le (by rw [slots_length]; omega)) ?_
                      rintro v w218 ⟨rfl, hS218, hK218⟩
                      obtain ⟨hd2, rs2, g2, hO2, hR2, hnf2, hsl2, hlsb2, hlfp2⟩ := hS218
                      obtain ⟨ha2, hcap2, rfl⟩ := hR2.hdl
                      obtain ⟨E, hE⟩ : ∃ E : Slot, E = ⟨k, n, .slice va' vl.length vcap', (t : Nat)⟩ := ⟨_, rfl⟩
                      rw [← hE] at hsl2
                      have hflat : (slots rs2).flatten = (slots rs).flatten.take c ++ E :: (slots rs).flatten.drop c := by rw [hsl2]; exact insAt_flat E (by omega) hpl
                      have hlen2 : (lens (slots rs2)).length = rs2.length := by simp [lens, slots]
                      have hN2 : sumL (lens (slots rs2)) = N + 1 := by rw [← flat_len, hflat, List.length_append, List.length_cons, List.length_take, List.length_drop, ← hN]; omega
                      have hlens : lens (slots rs2) = insL (lens (slots rs)) r := by rw [hsl2]; exact lens_insAt _ (by omega) hpl hF1.inv.le
                      have hrs2 : rs2.length ≤ 8192 := by
                        rw [← hlen2, hlens]
                        by_cases hnil : lens (slots rs) = []
                        · rw [hnil]; simp [insL]
                        · rw [← insP_all hnil rfl hrle]; exact Nat.le_trans (insP_len _ _ _) (by omega)
                      have hob1 : w4.heap.size ≤ b153 := by omega
                      have hob2 : w4.heap.size ≤ b155 := by omega
                      have hob3 : w4.heap.size ≤ b157 := by omega
                      have hO2N := (hON.ext hE207).kp hK218 (fun e => by omega) (fun e => by omega) (fun e => by omega)
                      have hEfin : Ext w w218 := (hE0.trans hEy6).over hK218 (fun i hi e => by omega)
                      have h418 := hK218.own h46 (by omega)
                      have hV18 : BytesAt w218 va' vl := (hV6.kp (hK218.mono (fun _ _ q => q.1))).at
                      obtain ⟨⟨q1, hO71, hq1⟩, ⟨q2, hO72, hq2⟩, ⟨q3, hO73, hq3⟩⟩ := hO2N
                      have hf1 : ∀ s ∈ (slots rs).flatten, (k1 s).length = 20 := fun s hs => by simp [k1, hFk s hs]
                      have htk : (slots rs).flatten.take N = (slots rs).flatten := by rw [hN, List.take_length]
                      rw [htk] at hO71 hO72 hO73
                      refine WL.nil ?_
                      refine WX.thenC ?_
                      refine WC.seq ?_
                      refine WC.region ?_
                      refine WL.step (ok_move rfl) rfl ?_
                      refine WL.call (ok_callF rfl isfn21) rfl (shelfRuns sb 0 _ _ (by rw [hO2.cell]; rfl)) ?_
                      rintro v w220 ⟨rfl, hw220⟩
                      subst hw220
                      refine WL.step (ok_assign rfl) rfl ?_
                      refine WL.nil ?_
                      refine WX.thenC ?_
                      refine WC.seq ?_
                      refine WC.region ?_
                      refine WL.step (ok_assign rfl) rfl ?_
                      refine WL.nil ?_
                      refine WX.thenC ?_
                      refine WC.seq ?_
                      refine WC.seq ?_
                      refine WC.region ?_
                      refine WL.step (ok_assign rfl) rfl ?_
                      refine WL.nil ?_
                      refine WX.thenC ?_
                      refine WC.block ?_
                      refine WC.loop (fun j : Nat => [(2, .string n), (3, .slice va' vl.length vcap'), (4, .int .u64 (t : Nat)), (6, .pointer (some ⟨b6, 0, none⟩)), (14, .int .i64 (c : Nat)), (16, .slice ha2 rs2.length hcap2), (18, .int .i64 (N : Nat)), (20, .slice (some ⟨b153, 0, none⟩) N N), (21, .slice (some ⟨b155, 0, none⟩) N N), (22, .slice (some ⟨b157, 0, none⟩) N N), (29, .int .i64 (sumL ((lens (slots rs2)).take j) : Nat)), (30, .int .i64 (j : Nat))])
                        (fun j w' => j ≤ rs2.length ∧ Ext w220 w') (fun j => rs2.length - j) 0 (by repeat (first | exact trivial | refine ⟨rfl, ?_⟩)) ?_ ?_
                      · exact ⟨by omega, Kp.refl _ _⟩
                      rintro j w7 ⟨hjn7, hE7⟩
                      refine WC.seq ?_
                      refine WC.seq ?_
                      refine WC.region ?_
                      refine WL.step (ok_move rfl) rfl ?_
                      refine WL.step (ok_move rfl) rfl ?_
                      refine WL.step (ok_lenSlice rfl Try.underlying45) rfl ?_
                      refine WL.step (ok_lss rfl rfl) rfl ?_
                      refine WL.nil ?_
                      refine WX.thenC ?_
                      refine WC.cond rfl (fun hc224 => ?_) (fun hc224 => ?_)
                      ·
                        have hlt : j < rs2.length := by have := of_decide_eq_true hc224; omega
                        have hsj := sumL_take_succ (lens (slots rs2)) j (by omega)
                        have hsj2 : (lens (slots rs2))[j]'(by omega) = rs2[j].sl.length := by simp [lens, slots]
                        rw [hsj2] at hsj
                        have hsj3 := sumL_take_le (lens (slots rs2)) (j + 1)
                        refine WC.skip ?_
                        refine WX.thenC ?_
                        refine WC.seq ?_
                        refine WC.block ?_
                        refine WC.seq ?_
                        refine WC.region ?_
                        refine WL.step (ok_assign rfl) rfl ?_
                        refine WL.nil ?_
                        refine WX.thenC ?_
                        refine WC.block ?_
                        refine WC.loop (fun i : Nat => [(2, .string n), (3, .slice va' vl.length vcap'), (4, .int .u64 (t : Nat)), (6, .pointer (some ⟨b6, 0, none⟩)), (14, .int .i64 (c : Nat)), (16, .slice ha2 rs2.length hcap2), (18, .int .i64 (N : Nat)), (20, .slice (some ⟨b153, 0, none⟩) N N), (21, .slice (some ⟨b155, 0, none⟩) N N), (22, .slice (some ⟨b157, 0, none⟩) N N), (29, .int .i64 ((sumL ((lens (slots rs2)).take j) + i : Nat) : Int)), (30, .int .i64 (j : Nat)), (31, .int .i64 (i : Nat))])
                          (fun i w' => i ≤ rs2[j].sl.length ∧ Ext w220 w') (fun i => rs2[j].sl.length - i) 0 (by repeat (first | exact trivial | refine ⟨rfl, ?_⟩)) ?_ ?_
                        · exact ⟨by omega, hE7⟩
                        rintro i w8 ⟨hin, hE8⟩
                        obtain ⟨gb8, hcap8, spg8, heq8, hg8, hOg8, hcl8⟩ := (hR2.ext hE8).hd (by intro e; rw [e] at hlt; simp at hlt)
                        cases heq8
                        have hrun := (hR2.ext hE8).run rs2[j] (List.getElem_mem hlt)
                        refine WC.seq ?_
                        refine WC.seq ?_
                        refine WC.region ?_
                        refine WL.step (ok_move rfl) rfl ?_
                        refine WL.step (ok_move rfl) rfl ?_
                        refine WL.step (ok_move rfl) rfl ?_
                        refine WL.step (ok_indexS _ rfl rfl rfl (by omega) Try.underlying45 sz49) rfl ?_
                        refine WL.step (ok_load rfl one49 (rd_hdr hOg8 j hlt)) rfl ?_
                        refine WL.step (ok_lenSlice rfl Try.underlying49) rfl ?_
                        refine WL.step (ok_lss rfl rfl) rfl ?_
                        refine WL.nil ?_
                        refine WX.thenC ?_
                        refine WC.cond rfl (fun hc233 => ?_) (fun hc233 => ?_)
                        ·
                          have hi : i < rs2[j].sl.length := by have := of_decide_eq_true hc233; omega
                          obtain ⟨pos, hpos⟩ : ∃ p, p = sumL ((lens (slots rs2)).take j) + i := ⟨_, rfl⟩
                          have hposl : pos < N + 1 := by omega
                          obtain ⟨S, hSdef⟩ : ∃ S, S = rs2[j].sl[i] := ⟨_, rfl⟩
                          have hFS : (slots rs2).flatten[pos]? = some S := by
                            have h1 := flat_get (slots rs2) j i (by rw [slots_length]; exact hlt) (by simpa [slots] using hi)
                            rw [← hpos] at h1
                            rw [h1, hSdef]; simp [slots]
                          rw [hflat, spl_get _ _ _ _ (by omega)] at hFS
                          have hokS : OkSl S := by rw [hSdef]; exact hrun.1 _ (List.getElem_mem hi)
                          have hslot : Rd w8 rs2[j].b (0 + i * 23) S.cells := by rw [hSdef]; exact hrun.slot i hi
                          have hslen : S.cells.length = 23 := by rw [hSdef]; exact Slot.len hrun.1 _ (List.getElem_mem hi)
                          have helen : S.ent.length = 22 := by simp [Slot.ent, hokS.1]
                          refine WC.skip ?_
                          refine WX.thenC ?_
                          refine WC.seq ?_
                          refine WC.block ?_
                          refine WC.seq ?_
                          refine WC.region ?_
                          refine WL.step (ok_move rfl) rfl ?_
                          refine WL.step (ok_move rfl) rfl ?_
                          refine WL.step (ok_indexS _ rfl rfl rfl (by omega) Try.underlying45 sz49) rfl ?_
                          refine WL.step (ok_load rfl one49 (rd_hdr hOg8 j hlt)) rfl ?_
                          refine WL.step (ok_move rfl) rfl ?_
                          refine WL.step (ok_indexS i rfl rfl rfl (by omega) Try.underlying49 sz54) rfl ?_
                          refine WL.step (ok_loadN rfl agg54 sz54 hslen (hslot)) rfl ?_
                          refine WL.call (ok_callF rfl isfn24) rfl (slotEntry S hokS _) ?_
                          rintro v w243 ⟨rfl, hE243⟩
                          refine WL.alloc zero35 rfl ?_
                          intro b32 w32 hb32 ho32 hk32 hs32
                          refine WL.store rfl rfl sz35 (ho32) (by simpa [Value.cells] using helen) (by simp [Value.cells, helen]) (ent_one hokS) ?_
                          intro wr62 hor62 hkr62 hsr62
                          have h32 : Own wr62 b32 35 S.ent := by
                            have := hor62
                            simp only [Value.cells] at this
                            rw [splice_all _ _ (by simp [helen])] at this
                            exact this
                          have hE62 : Ext w8 wr62 := (hE243.trans hk32).over hkr62 (fun i hi e => by have := hE243.size; omega)
                          refine WL.nil ?_
                          refine WX.thenC ?_
                          refine WC.seq ?_
                          refine WC.region ?_
                          refine WL.step (ok_move rfl) rfl ?_
                          refine WL.step (ok_move rfl) rfl ?_
                          refine WL.step (ok_indexS _ rfl rfl rfl (by omega) Try.underlying45 sz49) rfl ?_
                          refine WL.step (ok_load rfl one49 (rd_hdr (hOg8.ext hE62) j hlt)) rfl ?_
                          refine WL.step (ok_move rfl) rfl ?_
                          refine WL.step (ok_indexS i rfl rfl rfl (by omega) Try.underlying49 sz54) rfl ?_
                          refine WL.step (ok_loadN rfl agg54 sz54 hslen ((hslot.kp hE62 (fun f => f)))) rfl ?_
                          refine WL.call (ok_callF rfl isfn25) rfl (slotTerm S hokS _) ?_
                          rintro v w251 ⟨rfl, hE251⟩
                          have hE63 : Ext w8 w251 := hE62.trans hE251
                          have h32b := h32.ext hE251
                          refine WL.step (ok_assign rfl) rfl ?_
                          refine WL.nil ?_
                          refine WX.thenC ?_
                          refine WC.seq ?_
                          refine WC.seq ?_
                          refine WC.region ?_
                          refine WL.step (ok_move rfl) rfl ?_
                          refine WL.step (ok_move rfl) rfl ?_
                          refine WL.step (ok_eql rfl rfl) rfl ?_
                          refine WL.nil ?_
                          refine WX.thenC ?_
                          refine WC.cond rfl (fun hc254 => ?_) (fun hc254 => ?_)
                          ·
                            have hpc : pos = c := by have := of_decide_eq_true hc254; omega
                            rw [if_pos hpc] at hFS
                            have hSE : S = E := by simpa using hFS.symm
                            have hSk : S.key = k := by rw [hSE, hE]
                            have hSn : S.name = n := by rw [hSE, hE]
                            have hSv : S.val = .slice va' vl.length vcap' := by rw [hSE, hE]
                            have hSt : S.term = (t : Nat) := by rw [hSE, hE]
                            refine WC.seq ?_
                            refine WC.region ?_
                            refine WL.step (ok_field rfl fld35_0) rfl ?_
                            refine WL.step (ok_loadN rfl agg33 sz33 (by simp [hokS.1]) (rd_ekey h32b.rd0)) rfl ?_
                            refine WL.step (ok_loadN rfl agg29 sz29 (by simp [hk]) ((h418.ext (hE8.trans hE63)).rd0)) rfl ?_
                            refine WL.call (ok_callF rfl isfn16) rfl (cmpKey S.key k hokS.1 hk _) ?_
                            rintro v w258 ⟨rfl, hE258⟩
                            refine WL.step (ok_neq rfl rfl) rfl ?_
                            refine WL.step (ok_move rfl) rfl ?_
                            refine WL.rew 260 (.bool false) rfl (congrArg Value.bool (by rw [hSk, cmpK_self]; rfl)) ?_
                            refine WL.on rfl rfl ?_
                            refine WL.step (ok_field rfl fld35_1) rfl ?_
                            refine WL.on rfl rfl ?_
                            refine WL.step (ok_load rfl one9 (rd_ename (h32b.ext hE258).rd0 hokS.1)) rfl ?_
                            refine WL.on rfl rfl ?_
                            refine WL.step (ok_move rfl) rfl ?_
                            refine WL.on rfl rfl ?_
                            refine WL.step (ok_neqS rfl rfl) rfl ?_
                            refine WL.step (ok_pickF rfl rfl) rfl ?_
                            refine WL.step (ok_move rfl) rfl ?_
                            refine WL.rew 266 (.bool false) rfl (congrArg Value.bool (by rw [hSn]; simp)) ?_
                            refine WL.on rfl rfl ?_
                            refine WL.step (ok_field rfl fld35_2) rfl ?_
                            refine WL.on rfl rfl ?_
                            refine WL.step (ok_load rfl one30 ((show w258.cell? ⟨b32, 0 + 21, none⟩ = some (.slice va' vl.length vcap') by rw [rd_eval (h32b.ext hE258).rd0 hokS.1, hSv]))) rfl ?_
                            refine WL.on rfl rfl ?_
                            refine WL.step (ok_move rfl) rfl ?_
                            refine WL.on rfl rfl ?_
                            refine WL.call (ok_callF rfl isfn17) rfl (bytesSame vl va' va' vcap' vcap' (by omega) _ (hV18.ext ((hE8.trans hE63).trans hE258)) (hV18.ext ((hE8.trans hE63).trans hE258))) ?_
                            rintro v w270 ⟨rfl, hE270a⟩
                            have hE270 : Ext w8 w270 := (hE63.trans hE258).trans hE270a
                            refine WL.on rfl rfl ?_
                            refine WL.step (ok_not rfl) rfl ?_
                            refine WL.step (ok_pickF rfl rfl) rfl ?_
                            refine WL.step (ok_move rfl) rfl ?_
                            refine WL.rew 273 (.bool false) rfl (congrArg Value.bool rfl) ?_
                            refine WL.on rfl rfl ?_
                            refine WL.step (ok_move rfl) rfl ?_
                            refine WL.on rfl rfl ?_
                            refine WL.step (ok_move rfl) rfl ?_
                            refine WL.on rfl rfl ?_
                            refine WL.step (ok_neq rfl rfl) rfl ?_
                            refine WL.step (ok_pickF rfl rfl) rfl ?_
                            refine WL.nil ?_
                            refine WX.thenC ?_
                            refine WC.condFb rfl (by rw [hSt]; simp) ?_
                            refine WC.skip ?_
                            refine WX.thenC ?_
                            refine WC.region ?_
                            refine WL.step (ok_move rfl) rfl ?_
                            refine WL.step (ok_add ((sumL ((lens (slots rs2)).take j) + (i + 1) : Nat) : Int) rfl rfl (by omega) (by omega) (by omega)) rfl ?_
                            refine WL.step (ok_assign rfl) rfl ?_
                            refine WL.nil ?_
                            refine WX.blockN ?_
                            refine WX.thenC ?_
                            refine WC.region ?_
                            refine WL.step (ok_move rfl) rfl ?_
                            refine WL.step (ok_add ((i + 1 : Nat) : Int) rfl rfl (by omega) (by omega) (by omega)) rfl ?_
                            refine WL.step (ok_assign rfl) rfl ?_
                            refine WL.nil ?_
                            exact WX.again (i + 1) (by repeat (first | exact trivial | refine ⟨rfl, ?_⟩)) ⟨by omega, hE8.trans hE270⟩ (by omega)
                          ·
                            have hpc : pos ≠ c := by have := of_decide_eq_false hc254; omega
                            rw [if_neg hpc] at hFS
                            refine WC.seq ?_
                            refine WC.region ?_
                            refine WL.step (ok_move rfl) rfl ?_
                            refine WL.step (ok_assign rfl) rfl ?_
                            refine WL.nil ?_
                            refine WX.thenC ?_
                            refine WC.seq ?_
                            refine WC.seq ?_
                            refine WC.region ?_
                            refine WL.step (ok_move rfl) rfl ?_
                            refine WL.step (ok_move rfl) rfl ?_
                            refine WL.step (ok_gtr rfl rfl) rfl ?_
                            refine WL.nil ?_
                            refine WX.thenC ?_
                            refine WC.cond rfl (fun hc281 => ?_) (fun hc281 => ?_)
                            ·
                              have hpgt : c < pos := by have := of_decide_eq_true hc281; omega
                              rw [if_pos hpgt] at hFS
                              obtain ⟨oo, hoo⟩ : ∃ o, o = pos - 1 := ⟨_, rfl⟩
                              rw [← hoo] at hFS
                              have hov : ((pos - 1 : Nat) : Int) = (oo : Nat) := by rw [hoo]
                              refine WC.region ?_
                              refine WL.step (ok_move rfl) rfl ?_
                              refine WL.step (ok_sub ((pos - 1 : Nat) : Int) rfl rfl (by omega) (by omega) (by omega)) rfl ?_
                              refine WL.step (ok_assign rfl) rfl ?_
                              refine WL.nil ?_
                              refine WX.thenC ?_
                              refine WC.seq ?_
                              refine WC.seq ?_
                              refine WC.region ?_
                              refine WL.step (ok_move rfl) rfl ?_
                              refine WL.step (ok_move rfl) rfl ?_
                              refine WL.step (ok_geq rfl rfl) rfl ?_
                              refine WL.nil ?_
                              refine WX.thenC ?_
                              refine WC.condFb rfl (decide_eq_false (by have := lt_of_get hFS; omega)) ?_
                              refine WC.skip ?_
                              refine WX.thenC ?_
                              refine WC.seq ?_
                              obtain ⟨hool, hFo⟩ := List.getElem?_eq_some_iff.1 hFS
                              have hE87 := hE8.trans hE63
                              have hkT : Rd w251 b153 (0 + oo * 20) (kc S.key) := by
                                have := Rd.elem (l := (slots rs).flatten) (f := k1) (n := 20) (((hO71.ext hE87).rd0).append_left) hf1 oo hool
                                rw [hFo] at this; exact this
                              have hnT : w251.cell? ⟨b155, 0 + oo * 1, none⟩ = some (.string S.name) := by
                                have := Rd.elem (l := (slots rs).flatten) (f := k2) (n := 1) (((hO72.ext hE87).rd0).append_left) (fun a ha => rfl) oo hool
                                rw [hFo] at this; exact this 0 _ rfl
                              have htT : w251.cell? ⟨b157, 0 + oo * 1, none⟩ = some (.int .u64 S.term) := by
                                have := Rd.elem (l := (slots rs).flatten) (f := k3) (n := 1) (((hO73.ext hE87).rd0).append_left) (fun a ha => rfl) oo hool
                                rw [hFo] at this; exact this 0 _ rfl
                              have hSv : S.val = .slice none 0 0 := hNV S (by rw [← hFo]; exact List.getElem_mem _)
                              refine WC.drawE [] 23 [(0, true), (1, true), (2, true), (3, true), (4, true), (5, true), (6, false), (7, true), (8, true), (9, true), (10, true), (11, true), (12, true), (13, true), (14, true), (15, true), (16, true), (17, true), (18, true), (19, true), (20, true), (21, true), (22, true), (23, true), (24, true), (25, true), (26, true), (27, true), (28, true), (29, true), (30, true)] mixed (by kernel_rfl) (fun hS => ?_)
                              refine WO.quiet rfl (fun _ _ => ok_field rfl fld35_0) hS rfl ?_
                              refine WO.quiet rfl (fun _ hw => ok_loadN rfl agg33 sz33 (by simp [hokS.1]) (Rd.kp (rd_ekey h32b.rd0) hw (fun f => f))) hS rfl ?_
                              refine WO.quiet rfl (fun _ _ => ok_move rfl) hS rfl ?_
                              refine WO.quiet rfl (fun _ _ => ok_move rfl) hS rfl ?_
                              refine WO.quiet rfl (fun _ _ => ok_indexS oo rfl rfl hov (by omega) Try.underlying75 sz29) hS rfl ?_
                              refine WO.quiet rfl (fun _ hw => ok_loadN rfl agg29 sz29 (by simp [hokS.1]) (Rd.kp (hkT) hw (fun f => f))) hS rfl ?_
                              refine WO.loudCall rfl (ok_callF rfl isfn16) rfl (cmpKey S.key S.key hokS.1 hokS.1 _) ?_
                              rintro v w293 ⟨rfl, hE293⟩
                              refine ⟨(fun _ => hS.trans hE293), ?_⟩
                              have hS := hS.trans hE293
                              refine WO.quiet rfl (fun _ _ => ok_neq rfl rfl) hS rfl ?_
                              refine WO.quiet rfl (fun _ _ => ok_move rfl) hS rfl ?_
                              refine WO.rew 295 (.bool false) rfl (congrArg Value.bool (by rw [cmpK_self]; rfl)) ?_
                              refine WO.quietOn rfl rfl rfl (fun _ _ => ok_field rfl fld35_1) hS rfl ?_
                              refine WO.quietOn rfl rfl rfl (fun _ hw => ok_load rfl one9 (Kp.cell hw (rd_ename h32b.rd0 hokS.1) (fun f => f))) hS rfl ?_
                              refine WO.quietOn rfl rfl rfl (fun _ _ => ok_move rfl) hS rfl ?_
                              refine WO.quietOn rfl rfl rfl (fun _ _ => ok_move rfl) hS rfl ?_
                              refine WO.quietOn rfl rfl rfl (fun _ _ => ok_indexS oo rfl rfl hov (by omega) Try.underlying76 sz9) hS rfl ?_
                              refine WO.quietOn rfl rfl rfl (fun _ hw => ok_load rfl one9 (Kp.cell hw (hnT) (fun f => f))) hS rfl ?_
                              refine WO.quietOn rfl rfl rfl (fun _ _ => ok_neqS rfl rfl) hS rfl ?_
                              refine WO.quiet rfl (fun _ _ => ok_pickF rfl rfl) hS rfl ?_
                              refine WO.quiet rfl (fun _ _ => ok_move rfl) hS rfl ?_
                              refine WO.rew 304 (.bool false) rfl (congrArg Value.bool (by simp)) ?_
                              refine WO.quietOn rfl rfl rfl (fun _ _ => ok_field rfl fld35_2) hS rfl ?_
                              refine WO.quietOn rfl rfl rfl (fun _ hw => ok_load rfl one30 (Kp.cell hw ((show w251.cell? ⟨b32, 0 + 21, none⟩ = some (.slice none 0 0) by rw [rd_eval h32b.rd0 hokS.1, hSv])) (fun f => f))) hS rfl ?_
                              refine WO.quietOn rfl rfl rfl (fun _ _ => ok_lenSlice rfl Try.underlying30) hS rfl ?_
                              refine WO.quietOn rfl rfl rfl (fun _ _ => ok_neq rfl rfl) hS rfl ?_
                              refine WO.quiet rfl (fun _ _ => ok_pickF rfl rfl) hS rfl ?_
                              refine WO.quiet rfl (fun _ _ => ok_move rfl) hS rfl ?_
                              refine WO.rew 310 (.bool false) rfl (congrArg Value.bool rfl) ?_
                              refine WO.quietOn rfl rfl rfl (fun _ _ => ok_move rfl) hS rfl ?_
                              refine WO.quietOn rfl rfl rfl (fun _ _ => ok_move rfl) hS rfl ?_
                              refine WO.quietOn rfl rfl rfl (fun _ _ => ok_move rfl) hS rfl ?_
                              refine WO.quietOn rfl rfl rfl (fun _ _ => ok_indexS oo rfl rfl hov (by omega) Try.underlying77 sz52) hS rfl ?_
                              refine WO.quietOn rfl rfl rfl (fun _ hw => ok_load rfl one52 (Kp.cell hw (htT) (fun f => f))) hS rfl ?_
                              refine WO.quietOn rfl rfl rfl (fun _ _ => ok_neq rfl rfl) hS rfl ?_
                              refine WO.quiet rfl (fun _ _ => ok_pickF rfl rfl) hS rfl ?_
                              refine WO.nil ?_
                              refine WX.thenC ?_
                              refine WC.condFb rfl (by simp) ?_
                              refine WC.skip ?_
                              refine WX.thenC ?_
                              refine WC.region ?_
                              refine WL.step (ok_move rfl) rfl ?_
                              refine WL.step (ok_add ((sumL ((lens (slots rs2)).take j) + (i + 1) : Nat) : Int) rfl rfl (by omega) (by omega) (by omega)) rfl ?_
                              refine WL.step (ok_assign rfl) rfl ?_
                              refine WL.nil ?_
                              refine WX.blockN ?_
                              refine WX.thenC ?_
                              refine WC.region ?_
                              refine WL.step (ok_move rfl) rfl ?_
                              refine WL.step (ok_add ((i + 1 : Nat) : Int) rfl rfl (by omega) (by omega) (by omega)) rfl ?_
                              refine WL.step (ok_assign rfl) rfl ?_
                              refine WL.nil ?_
                              exact WX.again (i + 1) (by repeat (first | exact trivial | refine ⟨rfl, ?_⟩)) ⟨by omega, (hE8.trans hE63).trans hS⟩ (by omega)
                            ·
                              have hpgt : ¬ c < pos := by have := of_decide_eq_false hc281; omega
                              rw [if_neg hpgt] at hFS
                              obtain ⟨oo, hoo⟩ : ∃ o, o = pos := ⟨_, rfl⟩
                              rw [← hoo] at hFS
                              have hov : ((sumL ((lens (slots rs2)).take j) + i : Nat) : Int) = (oo : Nat) := by rw [hoo, hpos]
                              refine WC.skip ?_
                              refine WX.thenC ?_
                              refine WC.seq ?_
                              refine WC.seq ?_
                              refine WC.region ?_
                              refine WL.step (ok_move rfl) rfl ?_
                              refine WL.step (ok_move rfl) rfl ?_
                              refine WL.step (ok_geq rfl rfl) rfl ?_
                              refine WL.nil ?_
                              refine WX.thenC ?_
                              refine WC.condFb rfl (decide_eq_false (by have := lt_of_get hFS; omega)) ?_
                              refine WC.skip ?_
                              refine WX.thenC ?_
                              refine WC.seq ?_
                              obtain ⟨hool, hFo⟩ := List.getElem?_eq_some_iff.1 hFS
                              have hE87 := hE8.trans hE63
                              have hkT : Rd w251 b153 (0 + oo * 20) (kc S.key) := by
                                have := Rd.elem (l := (slots rs).flatten) (f := k1) (n := 20) (((hO71.ext hE87).rd0).append_left) hf1 oo hool
                                rw [hFo] at this; exact this
                              have hnT : w251.cell? ⟨b155, 0 + oo * 1, none⟩ = some (.string S.name) := by
                                have := Rd.elem (l := (slots rs).flatten) (f := k2) (n := 1) (((hO72.ext hE87).rd0).append_left) (fun a ha => rfl) oo hool
                                rw [hFo] at this; exact this 0 _ rfl
                              have htT : w251.cell? ⟨b157, 0 + oo * 1, none⟩ = some (.int .u64 S.term) := by
                                have := Rd.elem (l := (slots rs).flatten) (f := k3) (n := 1) (((hO73.ext hE87).rd0).append_left) (fun a ha => rfl) oo hool
                                rw [hFo] at this; exact this 0 _ rfl
                              have hSv : S.val = .slice none 0 0 := hNV S (by rw [← hFo]; exact List.getElem_mem _)
                              refine WC.drawE [] 23 [(0, true), (1, true), (2, true), (3, true), (4, true), (5, true), (6, false), (7, true), (8, true), (9, true), (10, true), (11, true), (12, true), (13, true), (14, true), (15, true), (16, true), (17, true), (18, true), (19, true), (20, true), (21, true), (22, true), (23, true), (24, true), (25, true), (26, true), (27, true), (28, true), (29, true), (30, true)] mixed (by kernel_rfl) (fun hS => ?_)
                              refine WO.quiet rfl (fun _ _ => ok_field rfl fld35_0) hS rfl ?_
                              refine WO.quiet rfl (fun _ hw => ok_loadN rfl agg33 sz33 (by simp [hokS.1]) (Rd.kp (rd_ekey h32b.rd0) hw (fun f => f))) hS rfl ?_
                              refine WO.quiet rfl (fun _ _ => ok_move rfl) hS rfl ?_
                              refine WO.quiet rfl (fun _ _ => ok_move rfl) hS rfl ?_
                              refine WO.quiet rfl (fun _ _ => ok_indexS oo rfl rfl hov (by omega) Try.underlying75 sz29) hS rfl ?_
                              refine WO.quiet rfl (fun _ hw => ok_loadN rfl agg29 sz29 (by simp [hokS.1]) (Rd.kp (hkT) hw (fun f => f))) hS rfl ?_
                              refine WO.loudCall rfl (ok_callF rfl isfn16) rfl (cmpKey S.key S.key hokS.1 hokS.1 _) ?_
                              rintro v w293 ⟨rfl, hE293⟩
                              refine ⟨(fun _ => hS.trans hE293), ?_⟩
                              have hS := hS.trans hE293
                              refine WO.quiet rfl (fun _ _ => ok_neq rfl rfl) hS rfl ?_
                              refine WO.quiet rfl (fun _ _ => ok_move rfl) hS rfl ?_
                              refine WO.rew 295 (.bool false) rfl (congrArg Value.bool (by rw [cmpK_self]; rfl)) ?_
                              refine WO.quietOn rfl rfl rfl (fun _ _ => ok_field rfl fld35_1) hS rfl ?_
                              refine WO.quietOn rfl rfl rfl (fun _ hw => ok_load rfl one9 (Kp.cell hw (rd_ename h32b.rd0 hokS.1) (fun f => f))) hS rfl ?_
                              refine WO.quietOn rfl rfl rfl (fun _ _ => ok_move rfl) hS rfl ?_
                              refine WO.quietOn rfl rfl rfl (fun _ _ => ok_move rfl) hS rfl ?_
                              refine WO.quietOn rfl rfl rfl (fun _ _ => ok_indexS oo rfl rfl hov (by omega) Try.underlying76 sz9) hS rfl ?_
                              refine WO.quietOn rfl rfl rfl (fun _ hw => ok_load rfl one9 (Kp.cell hw (hnT) (fun f => f))) hS rfl ?_
                              refine WO.quietOn rfl rfl rfl (fun _ _ => ok_neqS rfl rfl) hS rfl ?_
                              refine WO.quiet rfl (fun _ _ => ok_pickF rfl rfl) hS rfl ?_
                              refine WO.quiet rfl (fun _ _ => ok_move rfl) hS rfl ?_
                              refine WO.rew 304 (.bool false) rfl (congrArg Value.bool (by simp)) ?_
                              refine WO.quietOn rfl rfl rfl (fun _ _ => ok_field rfl fld35_2) hS rfl ?_
                              refine WO.quietOn rfl rfl rfl (fun _ hw => ok_load rfl one30 (Kp.cell hw ((show w251.cell? ⟨b32, 0 + 21, none⟩ = some (.slice none 0 0) by rw [rd_eval h32b.rd0 hokS.1, hSv])) (fun f => f))) hS rfl ?_
                              refine WO.quietOn rfl rfl rfl (fun _ _ => ok_lenSlice rfl Try.underlying30) hS rfl ?_
                              refine WO.quietOn rfl rfl rfl (fun _ _ => ok_neq rfl rfl) hS rfl ?_
                              refine WO.quiet rfl (fun _ _ => ok_pickF rfl rfl) hS rfl ?_
                              refine WO.quiet rfl (fun _ _ => ok_move rfl) hS rfl ?_
                              refine WO.rew 310 (.bool false) rfl (congrArg Value.bool rfl) ?_
                              refine WO.quietOn rfl rfl rfl (fun _ _ => ok_move rfl) hS rfl ?_
                              refine WO.quietOn rfl rfl rfl (fun _ _ => ok_move rfl) hS rfl ?_
                              refine WO.quietOn rfl rfl rfl (fun _ _ => ok_move rfl) hS rfl ?_
                              refine WO.quietOn rfl rfl rfl (fun _ _ => ok_indexS oo rfl rfl hov (by omega) Try.underlying77 sz52) hS rfl ?_
                              refine WO.quietOn rfl rfl rfl (fun _ hw => ok_load rfl one52 (Kp.cell hw (htT) (fun f => f))) hS rfl ?_
                              refine WO.quietOn rfl rfl rfl (fun _ _ => ok_neq rfl rfl) hS rfl ?_
                              refine WO.quiet rfl (fun _ _ => ok_pickF rfl rfl) hS rfl ?_
                              refine WO.nil ?_
                              refine WX.thenC ?_
                              refine WC.condFb rfl (by simp) ?_
                              refine WC.skip ?_
                              refine WX.thenC ?_
                              refine WC.region ?_
                              refine WL.step (ok_move rfl) rfl ?_
                              refine WL.step (ok_add ((sumL ((lens (slots rs2)).take j) + (i + 1) : Nat) : Int) rfl rfl (by omega) (by omega) (by omega)) rfl ?_
                              refine WL.step (ok_assign rfl) rfl ?_
                              refine WL.nil ?_
                              refine WX.blockN ?_
                              refine WX.thenC ?_
                              refine WC.region ?_
                              refine WL.step (ok_move rfl) rfl ?_
                              refine WL.step (ok_add ((i + 1 : Nat) : Int) rfl rfl (by omega) (by omega) (by omega)) rfl ?_
                              refine WL.step (ok_assign rfl) rfl ?_
                              refine WL.nil ?_
                              exact WX.again (i + 1) (by repeat (first | exact trivial | refine ⟨rfl, ?_⟩)) ⟨by omega, (hE8.trans hE63).trans hS⟩ (by omega)
                        ·
                          have hie : i = rs2[j].sl.length := by have := of_decide_eq_false hc233; omega
                          have hpe : sumL ((lens (slots rs2)).take j) + i = sumL ((lens (slots rs2)).take (j + 1)) := by omega
                          rw [hpe]
                          refine WC.exit ?_
                          refine WX.thenE ?_
                          refine WX.thenE ?_
                          refine WX.blockHit ?_
                          refine WX.blockN ?_
                          refine WX.thenC ?_
                          refine WC.region ?_
                          refine WL.step (ok_move rfl) rfl ?_
                          refine WL.step (ok_add ((j + 1 : Nat) : Int) rfl rfl (by omega) (by omega) (by omega)) rfl ?_
                          refine WL.step (ok_assign rfl) rfl ?_
                          refine WL.nil ?_
                          exact WX.again (j + 1) (by repeat (first | exact trivial | refine ⟨rfl, ?_⟩)) ⟨by omega, hE8⟩ (by omega)
                      ·
                        have hge7 : j = rs2.length := by have := of_decide_eq_false hc224; omega
                        have hfinN : sumL ((lens (slots rs2)).take j) = N + 1 := by rw [hge7, sumL_take_all _ _ (by omega), hN2]
                        refine WC.exit ?_
                        refine WX.thenE ?_
                        refine WX.thenE ?_
                        refine WX.blockHit ?_
                        refine WX.thenC ?_
                        refine WC.seq ?_
                        refine WC.region ?_
                        refine WL.step (ok_move rfl) rfl ?_
                        refine WL.step (ok_move rfl) rfl ?_
                        refine WL.step (ok_add ((N + 1 : Nat) : Int) rfl rfl (by omega) (by omega) (by omega)) rfl ?_
                        refine WL.step (ok_eql rfl rfl) rfl ?_
                        refine WL.step (ok_assign rfl) rfl ?_
                        refine WL.nil ?_
                        refine WX.thenC ?_
                        refine WC.ret ?_
                        exact WX.ret1 rfl rfl ⟨_, rfl, congrArg Value.bool (decide_eq_true (by rw [hfinN])), hEfin.trans hE7⟩

end Go.Proofs.Try
