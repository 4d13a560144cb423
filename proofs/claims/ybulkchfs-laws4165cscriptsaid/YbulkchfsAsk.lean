/- CONTRACT OF ask (37). -/
import Derived.Test.YbulkchfsClosest
import Derived.Test.YbulkchfsSet
import Derived.Test.YbulkchfsSmall
import Derived.Deep.Cut
namespace Go.Proofs.Ybulkchfs
open Go.RowKit Go.Lib
set_option linter.unusedVariables false
set_option linter.unusedSimpArgs false
attribute [local go_sem ↓] ldI_eq ldC_eq stI_eq stC_eq bsC_eq
attribute [local go_sem] load_id load_contact store_id store_contact build_contacts
attribute [local go_sem] arr?_drew arr?_drewN arr?_alloc_past arr?_setCell agg_aL agg_cL

/-- What ask leaves of L: some entries that were unqueried are pending. -/
structure Asked (L L' : St) (m : Nat) (Y : Nat → Int) : Prop where
  same : L' = { L with S := L'.S, T := L'.T, active := L.active + m, out := L.out + m, over := L'.over }
  turn : ∀ i, i < L.n → L'.S (L.E i) = L.S (L.E i) ∨ L.S (L.E i) = 0 ∧ L'.S (L.E i) = 1
  pick : ∀ j, j < m → ∃ i, i < L.n ∧ Y j = L.X (L.E i) ∧ L.S (L.E i) = 0 ∧ L'.S (L.E i) = 1
  apart : ∀ j j', j < j' → j' < m → Y j ≠ Y j'

theorem RowW.congr {w : World} {sz b n cap : Nat} {V V' : Nat → List Value} (h : RowW w sz b n cap V) (e : ∀ j, j < n → V j = V' j) : RowW w sz b n cap V' :=
  ⟨h.le, h.big, fun j hj => by rw [← e j hj]; exact h.len j hj, fun j hj => by rw [← e j hj]; exact h.lies j hj, h.here, h.thaw⟩

def conts (Y : Nat → Int) : Nat → List Value := fun j => cL (idF (Y j))

set_option maxRecDepth 100000 in
theorem ask_any (w : World) (bl : Nat) (L : St) (kn : Nat) (H : Rep w bl L) (hk : L.k = (kn : Int)) (hkn : kn ≤ 1000) (hdr : L.drawn = L.k) (hout : L.out = L.active) (hact : -100000 ≤ L.active ∧ L.active ≤ 100000) (hst : ∀ i, i < L.n → L.S (L.E i) ≠ 5 ∧ L.S (L.E i) ≠ 2) :
    Calls Yba.prog 37 #[pb bl] w fun r w' => ∃ (bb m cap : Nat) (Y : Nat → Int) (L' : St), r = .returned (slV bb m cap) ∧ m ≤ kn ∧ RowW w' 24 bb m cap (conts Y) ∧ (0 < cap → w.heap.size ≤ bb) ∧ Rep w' bl L' ∧ Asked L L' m Y ∧ L'.over = L.over ∧ Chg (Own bl L) w w' := by
  have hF := H.fields
  have hdraw := draw_none w bl kn L.active ⟨by omega, by omega⟩ ⟨by omega, by omega⟩ (by rw [← hk]; exact hF.k) hF.failed hF.active (by rw [← hout]; exact hF.out) (by rw [← hk, ← hdr]; exact hF.drawn)
  have c69 := hF.stalled
  have c41 := hF.alpha
  have c42 := hF.atOnce
  have HH : Hid (Rep w bl L) := H
  have HSt : Hid (∀ i, i < L.n → L.S (L.E i) ≠ 5 ∧ L.S (L.E i) ≠ 2) := hst
  have HD : Hid (Calls Yba.prog 44 #[pb bl] w fun e w' => e = .returned (.tuple #[]) ∧ ∃ n, w' = w.drewN n) := hdraw
  obtain ⟨m0, hm0⟩ : ∃ m0, m0 = min kn L.n := ⟨_, rfl⟩
  have HC : Hid (∀ n, Calls Yba.prog 45 #[pb bl] (w.drewN n) fun r w' => ∃ be cap ad, r = .returned (.slice ad m0 cap) ∧ Hid (ad = (if cap = 0 then none else some ⟨be, 0, none⟩)) ∧ Hid (RowW w' 1 be m0 cap (ptrs L.E)) ∧ Hid (0 < cap → w.heap.size ≤ be) ∧ Hid (Below w.heap.size w w')) := fun n => by
    refine (closest_any (w.drewN n) bl L kn (H.keep (fun _ _ => rfl)) hk hst).mono ?_
    rintro r w' ⟨be, cap, rfl, h1, h2, h3⟩
    rw [← hm0] at h1 ⊢
    exact ⟨be, cap, _, rfl, rfl, h1, h2, ⟨h3.os, h3.tape, h3.output, h3.size, h3.block⟩⟩
  have HM : Hid (m0 ≤ kn ∧ m0 ≤ L.n) := by show _ ∧ _; omega
  have hsm := H.small
  have hbl := H.fields.lt
  have HA : Hid (-100000 ≤ L.active ∧ L.active ≤ 100000) := hact
  have hm256 : m0 ≤ 256 := by omega
  clear hm0 hact
  clear hdraw H hF hst
  go_enter Yba.func37, Yba.ntmps37
  go_wp2_with (go_at_call 44; refine HD.out.mono ?_; rintro _ _ ⟨rfl, n1, rfl⟩)
  go_quiet (fail)
  go_upto_if 17 with fail
  go_cut [3] from 9 (fun s3 wc => ∃ (most : Int) (n2 : Nat), s3 = .int .i64 most ∧ wc = w.drewN n2)
  case first =>
    by_cases hsa : L.stalled < L.alpha
    · go_wp2
      go_meet
      exact ⟨_, _, rfl, rfl⟩
    · go_wp2
      go_meet
      exact ⟨_, _, rfl, rfl⟩
  case rest =>
    obtain ⟨most, n2, rfl, rfl⟩ := hcut
    go_wp2_with (go_at_call 45; refine (HC.out n2).mono ?_; rintro _ w1 ⟨be, ecap, ead, rfl, Had, Hre, Hbe, HB1⟩)
    have g70 : w1.cell? ⟨bl, 70, none⟩ = some (.int .i64 L.active) := (HB1.out.cell (p := ⟨bl, 70, none⟩) hbl).trans HH.out.fields.active
    have g68 : w1.cell? ⟨bl, 68, none⟩ = some (.int .i64 L.adv) := (HB1.out.cell (p := ⟨bl, 68, none⟩) hbl).trans HH.out.fields.adv
    go_loopw [4, 6, 36] (fun ba _ ix wr => ∃ (q m bb cap : Nat) (ad : Option Addr) (I : Nat → Nat) (S T : Nat → Int), ix = .int .i64 (q : Int) ∧ ba = .slice ad m cap ∧ q ≤ m0 ∧ m ≤ q ∧ ad = (if cap = 0 then none else some ⟨bb, 0, none⟩) ∧
        RowW wr 24 bb m cap (conts fun j => L.X (L.E (I j))) ∧ (0 < cap → w1.heap.size ≤ bb) ∧ Rep wr bl { L with S := S, T := T } ∧ (∀ j, j < m → I j < q) ∧ (∀ j j', j < j' → j' < m → I j < I j') ∧ (∀ j, j < m → L.S (L.E (I j)) = 0 ∧ S (L.E (I j)) = 1) ∧ (∀ i, q ≤ i → i < L.n → S (L.E i) = L.S (L.E i)) ∧
        (∀ i, i < L.n → S (L.E i) = L.S (L.E i) ∨ L.S (L.E i) = 0 ∧ S (L.E i) = 1) ∧ Chg (fun k => ∃ i, i < L.n ∧ k = L.E i) w1 wr) (fun _ _ ix _ => (m0 - (RowKit.intOf ix).toNat))
    case atStart => exact ⟨0, 0, 0, 0, none, fun _ => 0, L.S, L.T, rfl, rfl, by omega, by omega, rfl, RowW.nil _ _ _ _, fun h => absurd h (by omega), HH.out.below HB1.out, fun j hj => absurd hj (by omega), fun j j' h1 h2 => absurd h2 (by omega), fun j hj => absurd hj (by omega), fun _ _ _ => rfl, fun _ _ => .inl rfl, Chg.refl _ _⟩
    case round =>
      obtain ⟨q, m, bb, cap, ad, I, S, T, rfl, rfl, hq, hmq, had, hrow, hnew, hrep, hI1, hI2, hI3, hrest, hturn, hchg⟩ := hrel
      have HX : Hid (ad = (if cap = 0 then none else some ⟨bb, 0, none⟩) ∧ RowW wr 24 bb m cap (conts fun j => L.X (L.E (I j))) ∧ (0 < cap → w1.heap.size ≤ bb)) := ⟨had, hrow, hnew⟩
      have HR : Hid (Rep wr bl { L with S := S, T := T }) := hrep
      have HI : Hid ((∀ j, j < m → I j < q) ∧ (∀ j j', j < j' → j' < m → I j < I j') ∧ (∀ j, j < m → L.S (L.E (I j)) = 0 ∧ S (L.E (I j)) = 1)) := ⟨hI1, hI2, hI3⟩
      have HT : Hid ((∀ i, q ≤ i → i < L.n → S (L.E i) = L.S (L.E i)) ∧ (∀ i, i < L.n → S (L.E i) = L.S (L.E i) ∨ L.S (L.E i) = 0 ∧ S (L.E i) = 1)) := ⟨hrest, hturn⟩
      have HG : Hid (Chg (fun k => ∃ i, i < L.n ∧ k = L.E i) w1 wr) := hchg
      clear had hrow hnew hrep hI1 hI2 hI3 hrest hturn hchg
      have hbl1 : bl < w1.heap.size := Nat.lt_of_lt_of_le hbl HB1.out.size
      have nE : ∀ k, k = bl → ¬ ∃ i, i < L.n ∧ k = L.E i := fun k hk ⟨i, hi, h⟩ => (HH.out.apart i hi).1 (by rw [← h, hk])
      have r70 : wr.cell? ⟨bl, 70, none⟩ = some (.int .i64 L.active) := HR.out.fields.active
      have r71 : wr.cell? ⟨bl, 71, none⟩ = some (.int .i64 L.active) := by rw [← hout]; exact HR.out.fields.out
      have r68 : wr.cell? ⟨bl, 68, none⟩ = some (.int .i64 L.adv) := HR.out.fields.adv
      have f70 : wr.frozen? ⟨bl, 70, none⟩ = false := HR.out.fields.thaw _
      have f71 : wr.frozen? ⟨bl, 71, none⟩ = false := HR.out.fields.thaw _
      have hwm : IntKind.i64.wrap (L.active + (m : Int)) = L.active + (m : Int) := by have := HA.out; rw [IntKind.wrap_i64]; omega
      have FIN : Hid (∃ (bb m' cap' : Nat) (Y : Nat → Int) (L' : St), Ending.returned (.slice ad m cap) = .returned (slV bb m' cap') ∧ m' ≤ kn ∧ RowW ((wr.setCell ⟨bl, 70, none⟩ (.int .i64 (L.active + m))).setCell ⟨bl, 71, none⟩ (.int .i64 (L.active + m))) 24 bb m' cap' (conts Y) ∧ (0 < cap' → w.heap.size ≤ bb) ∧ Rep ((wr.setCell ⟨bl, 70, none⟩ (.int .i64 (L.active + m))).setCell ⟨bl, 71, none⟩ (.int .i64 (L.active + m))) bl L' ∧ Asked L L' m' Y ∧ L'.over = L.over ∧ Chg (Own bl L) w ((wr.setCell ⟨bl, 70, none⟩ (.int .i64 (L.active + m))).setCell ⟨bl, 71, none⟩ (.int .i64 (L.active + m)))) := by
        have hbb : 0 < cap → bb ≠ bl := fun h => by have := HX.out.2.2 h; omega
        refine ⟨bb, m, cap, fun j => L.X (L.E (I j)), { L with S := S, T := T, active := L.active + m, out := L.active + m }, ?_, by have := HM.out; omega, ?_, ?_, ?_, ?_, rfl, ?_⟩
        · unfold slV; rw [← HX.out.1]
        · exact HX.out.2.1.keep (fun h => by rw [set_bl _ _ _ _ _ (hbb h), set_bl _ _ _ _ _ (hbb h)])
        · exact fun h => Nat.le_trans HB1.out.size (HX.out.2.2 h)
        · exact (HR.out.setActive _).setOut _
        · refine ⟨by rw [hout], HT.out.2, fun j hj => ⟨I j, ?_, rfl, (HI.out.2.2 j hj).1, (HI.out.2.2 j hj).2⟩, fun j j' h1 h2 h3 => ?_⟩
          · have := HI.out.1 j hj; have := HM.out; omega
          · have h4 := HI.out.2.1 j j' h1 h2
            have h5 := HI.out.1 j' h2
            have h6 := HH.out.rise (I j) (I j') h4 (by have := HM.out; omega)
            have h7 : L.X (L.E (I j)) = L.X (L.E (I j')) := h3
            rw [h7] at h6
            omega
        · have h1 : Chg (Own bl L) w wr := (Chg.ofNew HB1.out).trans HG.out (fun k _ ⟨i, hi, h⟩ => .inr (.inr (.inr ⟨i, hi, h⟩)))
          exact (h1.setCell _ _ (fun _ => .inl rfl)).setCell _ _ (fun _ => .inl rfl)
      by_cases hlt : q < m0
      · have hqn : q < L.n := by have := HM.out; omega
        obtain ⟨e, he⟩ : ∃ e, e = L.E q := ⟨_, rfl⟩
        have hec : 0 < ecap := by have := Hre.out.le; omega
        have hwb : w.heap.size ≤ be := Hbe.out hec
        have hbe1 : be < w1.heap.size := Hre.out.lt (by omega) hec
        have hbeE : ¬ ∃ i, i < L.n ∧ be = L.E i := fun ⟨i, hi, h⟩ => by have := (HH.out.ent i hi).lt; omega
        have hre' : wr.cell? ⟨be, q, none⟩ = some (pb e) := by
          have h1 := Hre.out.lies q hlt
          have h2 : w1.cell? ⟨be, q, none⟩ = some (pb (L.E q)) := by
            have := h1 0 (pb (L.E q)) rfl
            rwa [Nat.mul_one, Nat.add_zero] at this
          rw [he]
          exact (cell_of_heap (HG.out.block _ hbe1 hbeE) _).trans h2
        obtain rfl : ead = some ⟨be, 0, none⟩ := by rw [Had.out, if_neg (by omega)]
        have hent := HR.out.ent q hqn
        obtain ⟨s, hs⟩ : ∃ s, s = S (L.E q) := ⟨_, rfl⟩
        obtain ⟨dd, hdd⟩ : ∃ dd, dd = L.D (L.E q) := ⟨_, rfl⟩
        have e24 : wr.cell? ⟨e, 24, none⟩ = some (.int .i64 s) := by rw [he, hs]; exact hent.state
        have e25 : wr.cell? ⟨e, 25, none⟩ = some (.int .i64 dd) := by rw [he, hdd]; exact hent.depth
        obtain ⟨uu, huu⟩ : ∃ uu, uu = T (L.E q) := ⟨_, rfl⟩
        have e26 : wr.cell? ⟨e, 26, none⟩ = some (.int .i64 uu) := by rw [he, huu]; exact hent.sent
        have ec : arr? wr 24 e 0 = some (cL (idF (L.X e))) := by rw [he]; exact hent.contact
        have ef24 : wr.frozen? ⟨e, 24, none⟩ = false := by rw [he]; exact hent.thaw _
        have ef26 : wr.frozen? ⟨e, 26, none⟩ = false := by rw [he]; exact hent.thaw _
        have hq1 : (0:Int) ≤ (q:Int) := by omega
        have hq2 : (q:Int) < (m0:Int) := by omega
        have HE : Hid (e = L.E q ∧ s = S (L.E q)) := ⟨he, hs⟩
        clear hent he hs hdd huu hbeE hec nE
        by_cases hbr : most ≤ L.active + (m : Int)
        · go_wp2
          go_ret
          exact FIN.out
        · by_cases hs0 : s = 0
          · by_cases hd : dd < 160
            · have hb0 : (s == 0) = true := by simpa using hs0
              have hbd : decide (dd < 160) = true := by simpa using hd
              have hsl : slV bb m cap = .slice ad m cap := by unfold slV; rw [← HX.out.1]
              have hbb : 0 < cap → bb < wr.heap.size := fun h => HX.out.2.1.lt (by omega) h
              have hrowa : RowW (wr.alloc (.cells (cL (idF (L.X e))).toArray 73)) 24 bb m cap (conts fun j => L.X (L.E (I j))) := HX.out.2.1.keep (fun h => ((Below.refl wr.heap.size wr).alloc (Nat.le_refl _) _).block _ (hbb h))
              obtain ⟨w', bb', cap', hrun, hrow', hcase, hlt', hchg⟩ := append_rowW (wr.alloc (.cells (cL (idF (L.X e))).toArray 73)) 59 73 59 (cV zeroF) 24 56 t59 i73w c73 (by omega) bb m cap wr.heap.size 1 (conts fun j => L.X (L.E (I j))) (cL (idF (L.X e))) hrowa (length_cL _) (one_cL _) (fun j v hj => by rw [World.cell?_alloc_at _ _ _ _ rfl]; simpa using hj) (by omega) (by omega)
              rw [hsl] at hrun
              have hEw : e < w.heap.size := by rw [HE.out.1]; exact (HH.out.ent q hqn).lt
              have hw1r : w1.heap.size ≤ wr.heap.size := HG.out.size
              have hww : w.heap.size ≤ w1.heap.size := HB1.out.size
              have hC : Chg (fun k => k = bb ∧ 0 < cap) wr w' := ((Chg.refl _ wr).alloc _).trans hchg (fun _ _ h => h)
              have neb : ¬ (e = bb ∧ 0 < cap) := fun ⟨h1, h2⟩ => by have := HX.out.2.2 h2; omega
              have nbb : ¬ (bl = bb ∧ 0 < cap) := fun ⟨h1, h2⟩ => by have := HX.out.2.2 h2; omega
              have he' : w'.heap[e]? = wr.heap[e]? := hC.block _ (by omega) neb
              have hb' : w'.heap[bl]? = wr.heap[bl]? := hC.block _ (by omega) nbb
              have k24 : w'.cell? ⟨e, 24, none⟩ = some (.int .i64 s) := (cell_of_heap he' _).trans e24
              have k26 : w'.cell? ⟨e, 26, none⟩ = some (.int .i64 uu) := (cell_of_heap he' _).trans e26
              have k68 : w'.cell? ⟨bl, 68, none⟩ = some (.int .i64 L.adv) := (cell_of_heap hb' _).trans r68
              have kf24 : w'.frozen? ⟨e, 24, none⟩ = false := (frozen_of_heap he' _).trans ef24
              have kf26 : w'.frozen? ⟨e, 26, none⟩ = false := (frozen_of_heap he' _).trans ef26
              have hebl : e ≠ bl := by rw [HE.out.1]; exact (HH.out.apart q hqn).1
              have HR' : Hid (RowW w' 24 bb' (m + 1) cap' (push (conts fun j => L.X (L.E (I j))) m (cL (idF (L.X e))))) := hrow'
              have HC' : Hid (Chg (fun k => k = bb ∧ 0 < cap) wr w') := hC
              have HCase : Hid (bb' = bb ∧ 0 < cap ∨ bb' = (wr.alloc (.cells (cL (idF (L.X e))).toArray 73)).heap.size) := hcase
              clear hsl hbb hrowa hrow' hC hchg hcase hlt' neb nbb he' hb' FIN
              go_wp2_with (at_builtin; refine Lib.wpList_append_run _ rfl _ _ _ _ rfl _ _ rfl rfl _ _ hrun ?_)
              have hne' : bb' ≠ e := by
                rcases HCase.out with ⟨h1, h2⟩ | h1
                · have := HX.out.2.2 h2; omega
                · have h3 : (wr.alloc (.cells (cL (idF (L.X e))).toArray 73)).heap.size = wr.heap.size + 1 := by simp
                  omega
              have hEq : e = L.E q := HE.out.1
              have hS0 : L.S (L.E q) = 0 := by rw [← HT.out.1 q (Nat.le_refl _) hqn, ← HE.out.2, hs0]
              have hEi : ∀ i, i < L.n → i ≠ q → L.E i ≠ e := fun i hi hne h => hne (HH.out.inj hi hqn (by rw [h, hEq]))
              have hRw : Rep w' bl { L with S := S, T := T } := HR.out.keep (fun k hk => HC'.out.block k (HR.out.own_lt hk) (fun ⟨h1, h2⟩ => by
                have h3 := HX.out.2.2 h2
                have h4 : k < w.heap.size := HH.out.own_lt hk
                omega))
              refine ⟨⟨q + 1, m + 1, bb', cap', _, fun j => if j = m then q else I j, upd S e 1, upd T e L.adv, by simp, rfl, by omega, by omega, ?_, ?_, ?_, ?_, ?_, ?_, ?_, ?_, ?_, ?_⟩, by simp only [RowKit.intOf]; omega⟩
              · have := HR'.out.le
                rw [if_neg (by omega)]
              · refine (HR'.out.keep (fun _ => ?_)).congr (fun j hj => ?_)
                · rw [set_bl _ _ _ _ _ hne', set_bl _ _ _ _ _ hne']
                · unfold push conts
                  by_cases hjm : j = m
                  · simp only [if_pos hjm]; rw [hEq]
                  · simp only [if_neg hjm]
              · intro _
                rcases HCase.out with ⟨h1, h2⟩ | h1
                · rw [h1]; exact HX.out.2.2 h2
                · have h3 : (wr.alloc (.cells (cL (idF (L.X e))).toArray 73)).heap.size = wr.heap.size + 1 := by simp
                  omega
              · have h1 := (hRw.setState hqn 1).setSent hqn L.adv
                have h2 : ({ L with S := S, T := T } : St).E q = e := hEq.symm
                rw [h2] at h1
                exact h1
              · intro j hj
                by_cases hjm : j = m
                · simp only [if_pos hjm]; omega
                · simp only [if_neg hjm]; have := HI.out.1 j (by omega); omega
              · intro j j' h1 h2
                have hjm : ¬ j = m := by omega
                simp only [if_neg hjm]
                by_cases hjm' : j' = m
                · simp only [if_pos hjm']; exact HI.out.1 j (by omega)
                · simp only [if_neg hjm']; exact HI.out.2.1 j j' h1 (by omega)
              · intro j hj
                by_cases hjm : j = m
                · simp only [if_pos hjm]
                  refine ⟨hS0, ?_⟩
                  rw [← hEq, upd_same]
                · simp only [if_neg hjm]
                  have h1 := HI.out.1 j (by omega)
                  have h2 := HI.out.2.2 j (by omega)
                  refine ⟨h2.1, ?_⟩
                  rw [upd_ne _ _ (hEi (I j) (by omega) (by omega))]
                  exact h2.2
              · intro i h1 h2
                rw [upd_ne _ _ (hEi i h2 (by omega))]
                exact HT.out.1 i (by omega) h2
              · intro i hi
                by_cases hiq : i = q
                · right; rw [hiq]; exact ⟨hS0, by rw [← hEq, upd_same]⟩
                · rw [upd_ne _ _ (hEi i hi hiq)]; exact HT.out.2 i hi
              · have h1 : Chg (fun k => ∃ i, i < L.n ∧ k = L.E i) w1 w' := HG.out.trans HC'.out (fun k hk ⟨h1, h2⟩ => absurd hk (by have := HX.out.2.2 h2; omega))
                exact (h1.setCell _ _ (fun _ => ⟨q, hqn, hEq⟩)).setCell _ _ (fun _ => ⟨q, hqn, hEq⟩)
            · have hb0 : (s == 0) = true := by simpa using hs0
              have hbd : decide (dd < 160) = false := by simpa using hd
              clear FIN
              go_wp2
              exact ⟨⟨q + 1, m, bb, cap, ad, I, S, T, by simp, rfl, by omega, by omega, HX.out.1, HX.out.2.1, HX.out.2.2, HR.out, fun j hj => by have := HI.out.1 j hj; omega, HI.out.2.1, HI.out.2.2, fun i h1 h2 => HT.out.1 i (by omega) h2, HT.out.2, HG.out⟩, by simp only [RowKit.intOf]; omega⟩
          · have hb0 : (s == 0) = false := by simpa using hs0
            clear FIN
            go_wp2
            exact ⟨⟨q + 1, m, bb, cap, ad, I, S, T, by simp, rfl, by omega, by omega, HX.out.1, HX.out.2.1, HX.out.2.2, HR.out, fun j hj => by have := HI.out.1 j hj; omega, HI.out.2.1, HI.out.2.2, fun i h1 h2 => HT.out.1 i (by omega) h2, HT.out.2, HG.out⟩, by simp only [RowKit.intOf]; omega⟩
      · go_wp2
        go_ret
        exact FIN.out
end Go.Proofs.Ybulkchfs
