/- CONTRACT OF Replied (24). -/
import Derived.Test.YbulkchfsGrown
import Derived.Test.YbulkchfsNext
namespace Go.Proofs.Ybulkchfs
open Go.RowKit Go.Lib
set_option linter.unusedVariables false
set_option linter.unusedSimpArgs false
attribute [local go_sem ↓] ldI_eq ldC_eq stI_eq stC_eq bxI_eq bxC_eq nwI_eq nwC_eq lkM_eq upM_eq
attribute [local go_sem] load_id load_contact store_id store_contact box_id box_contact new_id new_contact
attribute [local go_sem] arr?_drew arr?_drewN arr?_alloc_past arr?_alloc_at arr?_setCell arr?_setA arr?_setA_same can?_drew can?_drewN can?_alloc_past can?_alloc_at can?_setCell can?_setA cell_setA frozen_setA size_setA agg_aL agg_cL size_aL size_cL length_aL length_cL

def foldP (L : St) (Z : Nat → Int) : Nat → Pn
  | 0 => startP L
  | i + 1 => stepP L (foldP L Z i) (Z i)

/-- The state behind Replied, from the state behind the adds. -/
def St.ended (L : St) (e : Nat) (a o : Int) : St := { L with stalled := if L.T e = L.adv then L.stalled + 1 else L.stalled, active := a - 1, out := o - 1, S := upd L.S e 3 }

def RepliedPost (w : World) (bl : Nat) (L : St) (e : Nat) (Z : Nat → Int) (m : Nat) (r : Ending) (w' : World) : Prop :=
  r = .returned (.tuple #[]) ∧ ∃ L1, Grown w.heap.size { L with answered := L.answered + 1 } L1 (L.D e + 1) (foldP { L with answered := L.answered + 1 } Z m) ∧ Rep w' bl (L1.ended e L.active L.out) ∧ Chg (Own bl L) w w'

set_option maxRecDepth 100000 in
theorem replied_any (w : World) (bl : Nat) (L : St) (x : Int) (e zb zn zcap kn : Nat) (ad : Option Addr) (Z : Nat → Int) (had : 0 < zcap → ad = some ⟨zb, 0, none⟩) (H : Rep w bl L) (hk : L.k = (kn : Int)) (hkn : kn ≤ 1000) (hfind : findK L.K x = some e) (hpend : L.S e = 1) (hzn : zn ≤ 100000)
    (hrow : RowW w 24 zb zn zcap (conts Z)) (hbyte : ∀ j, j < zn → 0 ≤ Z j ∧ Z j ≤ 255) (hzo : 0 < zcap → ¬ Own bl L zb) (hans : 0 ≤ L.answered ∧ L.answered ≤ 10000) (hact : -100000 ≤ L.active ∧ L.active ≤ 100000) (hout : -100000 ≤ L.out ∧ L.out ≤ 100000) :
    Calls Yba.prog 24 #[pb bl, cV (idF x), .slice ad zn zcap] w (RepliedPost w bl L e Z (min kn zn)) := by
  obtain ⟨W, hW⟩ : ∃ W, W = w.alloc (.cells (cL (idF x)).toArray 73) := ⟨_, rfl⟩
  have HW : Hid (Below w.heap.size w W) := by rw [hW]; exact (Below.refl _ w).alloc (Nat.le_refl _) _
  have hsz : W.heap.size = w.heap.size + 1 := by rw [hW]; simp
  have HR : Hid (Rep W bl L) := H.below HW.out
  have c4 : arr? W 20 w.heap.size 0 = some (aL (idF x)) := by
    have h0 : arr? W 24 w.heap.size 0 = some (cL (idF x)) := by rw [hW, arr?_alloc_at _ _ _ _ _ rfl (length_cL _)]
    obtain ⟨hl, hr⟩ := of_arr? h0
    refine arr?_of (length_aL _) (fun j v hj => hr j v ?_)
    unfold cL
    rw [List.getElem?_append_left (List.getElem?_eq_some_iff.1 hj).1]; exact hj
  have cK := HR.out.fields.known
  have hlk : ∀ n, Sem.run Yba.prog (lkM (.map (some L.br)) (aV (idF x))) (W.drewN n) = .ok (pb e) (W.drewN n) := fun n => look_known (w := W.drewN n) (HR.out.map.of_block rfl) x |>.trans (by rw [hfind]; rfl)
  have c72 := HR.out.fields.answered
  have f72 := HR.out.fields.thaw 72
  have c40 : W.cell? ⟨bl, 40, none⟩ = some (.int .i64 (kn : Int)) := by rw [← hk]; exact HR.out.fields.k
  have hw72 : IntKind.i64.wrap (L.answered + 1) = L.answered + 1 := by rw [IntKind.wrap_i64]; omega
  have hb1 : (0:Int) ≤ min (kn : Int) (zn : Int) := by omega
  have hb2 : min (kn : Int) (zn : Int) ≤ (zcap : Int) := by have := hrow.le; omega
  have HH : Hid (Rep w bl L) := H
  have HAd : Hid (0 < zcap → ad = some ⟨zb, 0, none⟩) := had
  have HP : Hid (findK L.K x = some e ∧ L.S e = 1) := ⟨hfind, hpend⟩
  have HRow : Hid (RowW w 24 zb zn zcap (conts Z)) := hrow
  have HBy : Hid (∀ j, j < zn → 0 ≤ Z j ∧ Z j ≤ 255) := hbyte
  have HZo : Hid (0 < zcap → ¬ Own bl L zb) := hzo
  have HNum : Hid ((0 ≤ L.answered ∧ L.answered ≤ 10000) ∧ (-100000 ≤ L.active ∧ L.active ≤ 100000) ∧ (-100000 ≤ L.out ∧ L.out ≤ 100000)) := ⟨hans, hact, hout⟩
  clear H had hfind hpend hrow hbyte hzo hans hact hout
  go_enter Yba.func24, Yba.ntmps24
  go_wp2
  rw [← hW]
  clear hW
  go_quiet (fail)
  go_wp2
  obtain ⟨mm, hmm⟩ : ∃ mm, mm = min kn zn := ⟨_, rfl⟩
  have e1 : (min (kn : Int) (zn : Int)).toNat = mm := by omega
  have e2 : max (min (kn : Int) (zn : Int)) 0 = (mm : Int) := by omega
  have e3 : min (kn : Int) (zn : Int) = (mm : Int) := by omega
  rw [← hmm, e1, e2, e3]
  obtain ⟨L0, hL0⟩ : ∃ L0, L0 = { L with answered := L.answered + 1 } := ⟨_, rfl⟩
  obtain ⟨W0, hW0⟩ : ∃ W0, W0 = (W.drewN nq).setCell ⟨bl, 72, none⟩ (.int .i64 (L.answered + 1)) := ⟨_, rfl⟩
  rw [← hW0]
  have HR0 : Hid (Rep W0 bl L0) := by
    rw [hW0, hL0]
    exact (HR.out.keep (w' := W.drewN nq) (fun _ _ => rfl)).setAnswered _ (by omega)
  have HC0 : Hid (Chg (Own bl L) w W0) := by
    rw [hW0]
    have h1 : Chg (Own bl L) w (W.drewN nq) := Chg.ofNew (Below.drewN HW.out nq)
    exact h1.setCell _ _ (fun _ => .inl rfl)
  have HL0 : Hid (L0 = { L with answered := L.answered + 1 }) := hL0
  have HMM : Hid (mm ≤ kn ∧ mm ≤ zn) := by show _ ∧ _; omega
  have HMQ : Hid (mm = min kn zn) := hmm
  clear e1 e2 e3 hb1 hb2 hmm hW0 hL0 cK hlk c72 f72 c40 hw72 c4
  go_loopw [8, 33] (fun _ ix wr => ∃ (i : Nat) (L1 : St), ix = .int .i64 (i : Int) ∧ i ≤ mm ∧ Rep wr bl L1 ∧ Grown w.heap.size L0 L1 (L.D e + 1) (foldP L0 Z i) ∧ Chg (Own bl L) w wr) (fun _ ix _ => mm - (RowKit.intOf ix).toNat)
  case atStart => exact ⟨0, L0, rfl, Nat.zero_le _, HR0.out, Grown.start _ _ _, HC0.out⟩
  case round =>
    obtain ⟨i, L1, rfl, him, hrep, hgr, hchg⟩ := hrel
    have HR1 : Hid (Rep wr bl L1) := hrep
    have HG : Hid (Grown w.heap.size L0 L1 (L.D e + 1) (foldP L0 Z i)) := hgr
    have HC : Hid (Chg (Own bl L) w wr) := hchg
    clear hrep hgr hchg
    by_cases hlt : i < mm
    · have hzn' : i < zn := by have := HMM.out; omega
      have hzc : 0 < zcap := by have := HRow.out.le; omega
      obtain rfl : ad = some ⟨zb, 0, none⟩ := HAd.out hzc
      have hzw : zb < w.heap.size := HRow.out.lt (by omega) hzc
      have hz : arr? wr 24 zb (i * 24) = some (cL (idF (Z i))) := (arr_of_heap (HC.out.block _ hzw (HZo.out hzc)) _ _).trans (HRow.out.arr hzn')
      have hi1 : (0:Int) ≤ (i:Int) := by omega
      have hi2 : (i:Int) < (mm:Int) := by omega
      go_wp2
      obtain ⟨Wb, hWb⟩ : ∃ Wb, Wb = setA (wr.alloc (.cells (cL zeroF).toArray 73)) wr.heap.size 0 (cL (idF (Z i))) := ⟨_, rfl⟩
      rw [← hWb]
      have HBb : Hid (Below wr.heap.size wr Wb) := by rw [hWb]; exact below_setA ((Below.refl _ wr).alloc (Nat.le_refl _) _) _ _ _ (Nat.le_refl _)
      have b8 : arr? Wb 24 wr.heap.size 0 = some (cL (idF (Z i))) := by rw [hWb]; exact arr?_setA_same _ _ _ _ _ (length_cL _) (can?_alloc_at _ _ _ _ _ _ rfl (by simp [length_cL]))
      obtain ⟨i0, hi0, hE0, _⟩ := HH.out.back x e HP.out.1
      have hE0' : L0.E i0 = e := by rw [HL0.out]; exact hE0
      have hn0 : i0 < L0.n := by rw [HL0.out]; exact hi0
      obtain ⟨j1, hj1, hE1⟩ := HG.out.has i0 hn0
      have hD1 : L1.D e = L.D e := by
        have := (HG.out.old i0 hn0).2.2.1
        rw [hE0'] at this
        rw [this, HL0.out]
      have b25 : Wb.cell? ⟨e, 25, none⟩ = some (.int .i64 (L.D e)) := by
        have h1 := HR1.out.ent j1 hj1
        rw [hE1, hE0'] at h1
        rw [HBb.out.cell (p := ⟨e, 25, none⟩) h1.lt, ← hD1]
        exact h1.depth
      have hdep : 0 ≤ L.D e ∧ L.D e ≤ L.answered := by have := HH.out.depths i0 hi0; rw [hE0] at this; exact this
      have hans1 : L1.answered = L.answered + 1 := by rw [HG.out.rest.2.2.2.2.2.2.2.2.2.1, HL0.out]
      have hwd : IntKind.i64.wrap (L.D e + 1) = L.D e + 1 := by have := HNum.out; rw [IntKind.wrap_i64]; omega
      have HRb : Hid (Rep Wb bl L1) := HR1.out.below HBb.out
      have HADD : Hid (Calls Yba.prog 39 #[pb bl, cV (idF (Z i)), .int .i64 (L.D e + 1)] Wb.drew fun r w9 => r = .returned (.tuple #[]) ∧ Hid (∃ L2, Rep w9 bl L2 ∧ Grown w.heap.size L0 L2 (L.D e + 1) (foldP L0 Z (i + 1)) ∧ Chg (Own bl L) w w9)) := by
        refine (add_any Wb.drew bl L1 (Z i) (L.D e + 1) (HRb.out.keep (fun _ _ => rfl)) (HBy.out i hzn') ⟨by omega, by rw [hans1]; omega⟩ (by rw [hans1]; have := HNum.out; omega)).mono ?_
        intro r w9 hp
        have hBw : w.heap.size ≤ Wb.drew.heap.size := Nat.le_trans HC.out.size HBb.out.size
        obtain ⟨L2, h1, h2, h3⟩ := HG.out.step hBw (HRb.out.keep (w' := Wb.drew) (fun _ _ => rfl)) (fun i hi => (by have := (HH.out.ent i (by rw [HL0.out] at hi; exact hi)).lt; rw [HL0.out]; exact this)) hp
        refine ⟨hp.1, L2, h1, h2, ?_⟩
        have h4 : Chg (Own bl L) w Wb.drew := (HC.out.trans (S' := fun _ => False) (Chg.ofNew HBb.out) (fun _ _ h => h.elim)).drew
        refine h4.trans h3 (fun k hk h => ?_)
        rcases h with h | h | ⟨h, h'⟩
        · exact .inl h
        · exact .inr (.inl (by rw [h, HG.out.rest.1, HL0.out]))
        · rcases HG.out.row with ⟨r1, r2⟩ | r1 | r1
          · rw [HL0.out] at r1 r2
            exact .inr (.inr (.inl ⟨r2, by rw [h', r1]⟩))
          · omega
          · omega
      clear hWb hE0 hE0' hn0 hj1 hE1 hD1 hans1 hdep hz
      go_region_with (go_at_call 39; refine HADD.out.mono ?_; rintro _ w9 ⟨rfl, HK⟩)
      all_goals
        go_wp2
        obtain ⟨L2, h1, h2, h3⟩ := HK.out
        exact ⟨⟨i + 1, L2, by simp, by omega, h1, h2, h3⟩, by simp only [RowKit.intOf]; omega⟩
    · obtain rfl : i = mm := by omega
      obtain ⟨i0, hi0, hE0, _⟩ := HH.out.back x e HP.out.1
      have hE0' : L0.E i0 = e := by rw [HL0.out]; exact hE0
      have hn0 : i0 < L0.n := by rw [HL0.out]; exact hi0
      obtain ⟨j1, hj1, hE1⟩ := HG.out.has i0 hn0
      have hEe : L1.E j1 = e := hE1.trans hE0'
      have hS1 : L1.S e = 1 := by
        have := (HG.out.old i0 hn0).2.1
        rw [hE0'] at this
        rw [this, HL0.out]; exact HP.out.2
      have hent := HR1.out.ent j1 hj1
      rw [hEe] at hent
      have hne : e ≠ bl := by rw [← hEe]; exact (HR1.out.apart j1 hj1).1
      have hans1 : L1.answered = L.answered + 1 := by rw [HG.out.rest.2.2.2.2.2.2.2.2.2.1, HL0.out]
      have hact1 : L1.active = L.active := by rw [HG.out.rest.2.2.2.2.2.2.2.1, HL0.out]
      have hout1 : L1.out = L.out := by rw [HG.out.rest.2.2.2.2.2.2.2.2.1, HL0.out]
      have hst1 : 0 ≤ L1.stalled ∧ L1.stalled ≤ L.answered := by
        have h1 := HH.out.stalls
        have h2 := HG.out.stalled
        rw [HL0.out] at h2
        rw [h2]
        have := HNum.out
        split <;> (constructor <;> (try simp only) <;> omega)
      have HST : Hid (Calls Yba.prog 40 #[pb bl, pb e] wr fun r w1 => r = .returned (.tuple #[]) ∧ w1.cell? ⟨e, 24, none⟩ = some (.int .i64 1) ∧ w1.frozen? ⟨e, 24, none⟩ = false ∧ w1.cell? ⟨bl, 70, none⟩ = some (.int .i64 L.active) ∧ w1.cell? ⟨bl, 71, none⟩ = some (.int .i64 L.out) ∧ w1.cell? ⟨bl, 75, none⟩ = some .nilFunc ∧ w1.frozen? ⟨bl, 70, none⟩ = false ∧ w1.frozen? ⟨bl, 71, none⟩ = false ∧
          Hid (RepliedPost w bl L e Z i (.returned (.tuple #[])) (((w1.setCell ⟨bl, 70, none⟩ (.int .i64 (L.active - 1))).setCell ⟨bl, 71, none⟩ (.int .i64 (L.out - 1))).setCell ⟨e, 24, none⟩ (.int .i64 3)))) := by
        refine (stall_any wr bl e _ _ _ hent.sent HR1.out.fields.adv HR1.out.fields.stalled (HR1.out.fields.thaw _) ⟨hst1.1, by have := HNum.out; omega⟩).mono ?_
        rintro r w1 ⟨hr, n, hw1⟩
        have hR0 : Rep (wr.drewN n) bl L1 := HR1.out.keep (fun _ _ => rfl)
        have hRs : Rep w1 bl { L1 with stalled := if L1.T e = L1.adv then L1.stalled + 1 else L1.stalled } ∧ Chg (fun k => k = bl) wr w1 := by
          by_cases hc : L1.T e = L1.adv
          · rw [if_pos hc] at hw1
            rw [if_pos hc, hw1]
            refine ⟨hR0.setStalled _ ⟨by omega, by omega⟩, ?_⟩
            have h1 : Chg (fun k => k = bl) wr (wr.drewN n) := ⟨rfl, rfl, rfl, Nat.le_refl _, fun _ _ _ => rfl⟩
            exact h1.setCell _ _ (fun _ => rfl)
          · rw [if_neg hc] at hw1
            rw [if_neg hc, hw1]
            exact ⟨hR0, ⟨rfl, rfl, rfl, Nat.le_refl _, fun _ _ _ => rfl⟩⟩
        have hent1 := hRs.1.ent j1 hj1
        have hentS : w1.cell? ⟨e, 24, none⟩ = some (.int .i64 1) := by
          have h1 := hent1.state
          have h2 : w1.cell? ⟨L1.E j1, 24, none⟩ = some (.int .i64 (L1.S (L1.E j1))) := h1
          rw [hEe, hS1] at h2
          exact h2
        have hentF : w1.frozen? ⟨e, 24, none⟩ = false := by
          have h1 : w1.frozen? ⟨L1.E j1, 24, none⟩ = false := hent1.thaw 24
          rw [hEe] at h1
          exact h1
        refine ⟨hr, hentS, hentF, ?_, ?_, hRs.1.fields.after, hRs.1.fields.thaw _, hRs.1.fields.thaw _, ⟨rfl, L1, ?_, ?_, ?_⟩⟩
        · rw [← hact1]; exact hRs.1.fields.active
        · rw [← hout1]; exact hRs.1.fields.out
        · have := HG.out
          rw [HL0.out] at this
          exact this
        · have h1 := ((hRs.1.setActive (L.active - 1)).setOut (L.out - 1)).setState (i := j1) hj1 3
          have h2 : ∀ (St' : St), St'.E = L1.E → St'.E j1 = e := fun St' h => by rw [h]; exact hEe
          rw [h2 _ rfl] at h1
          exact h1
        · have h1 : Chg (Own bl L) w w1 := HC.out.trans hRs.2 (fun k _ h => .inl h)
          have hOe : Own bl L e := .inr (.inr (.inr ⟨i0, hi0, hE0.symm⟩))
          exact ((h1.setCell _ _ (fun _ => .inl rfl)).setCell _ _ (fun _ => .inl rfl)).setCell _ _ (fun _ => hOe)
      have ha : -1000000 ≤ L.active ∧ L.active ≤ 1000000 := by have := HNum.out; omega
      have ho : -1000000 ≤ L.out ∧ L.out ≤ 1000000 := by have := HNum.out; omega
      have HAO : Hid ((-1000000 ≤ L.active ∧ L.active ≤ 1000000) ∧ (-1000000 ≤ L.out ∧ L.out ≤ 1000000)) := ⟨ha, ho⟩
      have HNE : Hid (e ≠ bl) := hne
      clear hE0 hE0' hn0 hj1 hE1 hEe hS1 hent hans1 hact1 hout1 hst1 ha ho hne
      go_wp2_with (first | (go_at_call 40; refine HST.out.mono ?_; rintro _ w1 ⟨rfl, k24, kf24, k70, k71, k75, kf70, kf71, HF⟩) | (go_at_call 41; refine (end_any _ _ _ _ _ HNE.out k24 kf24 k70 k71 k75 kf70 kf71 HAO.out.1 HAO.out.2).mono ?_; rintro _ _ ⟨rfl, rfl⟩))
      go_end0
      have hfin := HF.out
      rw [HMQ.out] at hfin
      exact hfin
end Go.Proofs.Ybulkchfs
