/- CONTRACTS OF THE CLOSURE zzs4165cnew$1 (35) AND OF THE FIRST draw (44). -/
import Derived.Test.YbulkchfsReplied
namespace Go.Proofs.Ybulkchfs
open Go.RowKit Go.Lib
set_option linter.unusedVariables false
set_option linter.unusedSimpArgs false
attribute [local go_sem ↓] ldI_eq ldC_eq stI_eq stC_eq bxI_eq bxC_eq nwI_eq nwC_eq
attribute [local go_sem] load_id load_contact store_id store_contact box_id box_contact new_id new_contact
attribute [local go_sem] arr?_drew arr?_drewN arr?_alloc_past arr?_alloc_at arr?_setCell arr?_setA arr?_setA_same can?_drew can?_drewN can?_alloc_past can?_alloc_at can?_setCell can?_setA cell_setA frozen_setA size_setA agg_aL agg_cL size_aL size_cL length_aL length_cL

theorem own_any (w : World) (bv zb zn zcap kn : Nat) (hbv : w.cell? ⟨bv, 0, none⟩ = some (.slice (some ⟨zb, 0, none⟩) zn zcap)) (hz : zn ≤ zcap) (hz63 : zcap ≤ 9223372036854775807) (hk : 1 ≤ kn) (hzn : 1 ≤ zn) :
    Calls Yba.prog 35 #[.int .i64 (kn : Int), pb bv] w fun r w' => r = .returned (.slice (some ⟨zb, 0, none⟩) (min kn zn) zcap) ∧ w' = w := by
  by_cases hc : zn < kn
  · have h1 : (zn : Int) < (kn : Int) := by omega
    have h2 : ¬ ((zn : Int) < 0) := by omega
    have h3 : (0:Int) ≤ (zn : Int) := by omega
    have h4 : (zn : Int) ≤ (zcap : Int) := by omega
    have hm : min kn zn = zn := by omega
    rw [hm]
    go_enter Yba.func35, Yba.ntmps35
    go_wp2
    go_ret
    exact ⟨rfl, rfl⟩
  · have h1 : ¬ ((zn : Int) < (kn : Int)) := by omega
    have h2 : ¬ ((kn : Int) < 0) := by omega
    have h3 : (0:Int) ≤ (kn : Int) := by omega
    have h4 : (kn : Int) ≤ (zcap : Int) := by omega
    have hm : min kn zn = kn := by omega
    rw [hm]
    go_enter Yba.func35, Yba.ntmps35
    go_wp2
    go_ret
    exact ⟨rfl, rfl⟩

def DrawPost (w : World) (bl : Nat) (L : St) (Z : Nat → Int) (m : Nat) (r : Ending) (w' : World) : Prop :=
  r = .returned (.tuple #[]) ∧ ∃ L1, Grown w.heap.size L L1 0 (foldP L Z m) ∧ Rep w' bl { L1 with drawn := L.k } ∧ Chg (Own bl L) w w'

set_option maxRecDepth 100000 in
theorem draw_first (w : World) (bl : Nat) (L : St) (bv zb zn zcap kn : Nat) (Z : Nat → Int) (H : Rep w bl L) (hk : L.k = (kn : Int)) (hkn : 1 ≤ kn ∧ kn ≤ 1000) (hdr : L.drawn = 0) (hact : L.active = 0) (hout : L.out = 0) (hown : L.own = .func (.func 35) #[] #[pb bv])
    (hbv : w.cell? ⟨bv, 0, none⟩ = some (.slice (some ⟨zb, 0, none⟩) zn zcap)) (hzn : 1 ≤ zn ∧ zn ≤ 100000) (hrow : RowW w 24 zb zn zcap (conts Z)) (hbyte : ∀ j, j < zn → 0 ≤ Z j ∧ Z j ≤ 255) (hzo : ¬ Own bl L zb) (hans : 0 ≤ L.answered ∧ L.answered ≤ 10000) :
    Calls Yba.prog 44 #[pb bl] w (DrawPost w bl L Z (min kn zn)) := by
  have c40 : w.cell? ⟨bl, 40, none⟩ = some (.int .i64 (kn : Int)) := by rw [← hk]; exact H.fields.k
  have c45 := H.fields.failed
  have c70 : w.cell? ⟨bl, 70, none⟩ = some (.int .i64 0) := by rw [← hact]; exact H.fields.active
  have c71 : w.cell? ⟨bl, 71, none⟩ = some (.int .i64 0) := by rw [← hout]; exact H.fields.out
  have c44 : w.cell? ⟨bl, 44, none⟩ = some (.int .i64 0) := by rw [← hdr]; exact H.fields.drawn
  have c43 : w.cell? ⟨bl, 43, none⟩ = some (.func (.func 35) #[] #[pb bv]) := by rw [← hown]; exact H.fields.own
  have hw0 : IntKind.i64.wrap (kn : Int) = (kn : Int) := by rw [IntKind.wrap_i64]; omega
  have hnk : ¬ ((kn : Int) ≤ 0) := by omega
  obtain ⟨mm, hmm⟩ : ∃ mm, mm = min kn zn := ⟨_, rfl⟩
  have HOwn : Hid (∀ n, Calls Yba.prog 35 #[.int .i64 (kn : Int), pb bv] (w.drewN n) fun r w' => r = .returned (.slice (some ⟨zb, 0, none⟩) mm zcap) ∧ w' = w.drewN n) := fun n => by
    rw [hmm]; exact own_any (w.drewN n) bv zb zn zcap kn hbv hrow.le hrow.big hkn.1 hzn.1
  rw [← hmm]
  have HMM : Hid (mm ≤ kn ∧ mm ≤ zn) := by show _ ∧ _; omega
  have hmmb : mm ≤ 1000 := by omega
  have HH : Hid (Rep w bl L) := H
  have HRow : Hid (RowW w 24 zb zn zcap (conts Z)) := hrow
  have HBy : Hid (∀ j, j < zn → 0 ≤ Z j ∧ Z j ≤ 255) := hbyte
  have HZo : Hid (¬ Own bl L zb) := hzo
  have HNum : Hid ((0 ≤ L.answered ∧ L.answered ≤ 10000) ∧ L.k = (kn : Int)) := ⟨hans, hk⟩
  clear H hk hkn hdr hact hout hown hbv hzn hrow hbyte hzo hans hmm
  go_enter Yba.func44, Yba.ntmps44
  go_wp2
  go_quiet (fail)
  go_wp2_with (go_at_call 35; refine (HOwn.out _).mono ?_; rintro _ _ ⟨rfl, rfl⟩)
  clear c45 c70 c71 c44 c43 c40 hw0 hnk
  go_loopw [4, 37] (fun _ ix wr => ∃ (i : Nat) (L1 : St), ix = .int .i64 (i : Int) ∧ i ≤ mm ∧ Rep wr bl L1 ∧ Grown w.heap.size L L1 0 (foldP L Z i) ∧ Chg (Own bl L) w wr) (fun _ ix _ => mm - (RowKit.intOf ix).toNat)
  case atStart => exact ⟨0, L, rfl, Nat.zero_le _, HH.out.keep (fun _ _ => rfl), Grown.start _ _ _, ⟨rfl, rfl, rfl, Nat.le_refl _, fun _ _ _ => rfl⟩⟩
  case round =>
    obtain ⟨i, L1, rfl, him, hrep, hgr, hchg⟩ := hrel
    have HR1 : Hid (Rep wr bl L1) := hrep
    have HG : Hid (Grown w.heap.size L L1 0 (foldP L Z i)) := hgr
    have HC : Hid (Chg (Own bl L) w wr) := hchg
    clear hrep hgr hchg
    by_cases hlt : i < mm
    · have hzn' : i < zn := by have := HMM.out; omega
      have hzc : 0 < zcap := by have := HRow.out.le; omega
      have hzw : zb < w.heap.size := HRow.out.lt (by omega) hzc
      have hz : arr? wr 24 zb (i * 24) = some (cL (idF (Z i))) := (arr_of_heap (HC.out.block _ hzw HZo.out) _ _).trans (HRow.out.arr hzn')
      have hi1 : (0:Int) ≤ (i:Int) := by omega
      have hi2 : (i:Int) < (mm:Int) := by omega
      obtain ⟨Wb, hWb⟩ : ∃ Wb, Wb = setA (wr.alloc (.cells (cL zeroF).toArray 73)) wr.heap.size 0 (cL (idF (Z i))) := ⟨_, rfl⟩
      have HBb : Hid (Below wr.heap.size wr Wb) := by rw [hWb]; exact below_setA ((Below.refl _ wr).alloc (Nat.le_refl _) _) _ _ _ (Nat.le_refl _)
      have hans1 : L1.answered = L.answered := HG.out.rest.2.2.2.2.2.2.2.2.2.1
      have HRb : Hid (Rep Wb bl L1) := HR1.out.below HBb.out
      have HADD : Hid (Calls Yba.prog 39 #[pb bl, cV (idF (Z i)), .int .i64 0] Wb fun r w9 => r = .returned (.tuple #[]) ∧ Hid (∃ L2, Rep w9 bl L2 ∧ Grown w.heap.size L L2 0 (foldP L Z (i + 1)) ∧ Chg (Own bl L) w w9)) := by
        refine (add_any Wb bl L1 (Z i) 0 HRb.out (HBy.out i hzn') ⟨by omega, by rw [hans1]; exact HNum.out.1.1⟩ (by rw [hans1]; have := HNum.out; omega)).mono ?_
        intro r w9 hp
        have hBw : w.heap.size ≤ Wb.heap.size := Nat.le_trans HC.out.size HBb.out.size
        obtain ⟨L2, h1, h2, h3⟩ := HG.out.step hBw HRb.out (fun i hi => (HH.out.ent i hi).lt) hp
        refine ⟨hp.1, L2, h1, h2, ?_⟩
        have h4 : Chg (Own bl L) w Wb := HC.out.trans (S' := fun _ => False) (Chg.ofNew HBb.out) (fun _ _ h => h.elim)
        refine h4.trans h3 (fun k hk h => ?_)
        rcases h with h | h | ⟨h, h'⟩
        · exact .inl h
        · exact .inr (.inl (by rw [h, HG.out.rest.1]))
        · rcases HG.out.row with ⟨r1, r2⟩ | r1 | r1
          · exact .inr (.inr (.inl ⟨r2, by rw [h', r1]⟩))
          · omega
          · omega
      have b8 : arr? Wb 24 wr.heap.size 0 = some (cL (idF (Z i))) := by rw [hWb]; exact arr?_setA_same _ _ _ _ _ (length_cL _) (can?_alloc_at _ _ _ _ _ _ rfl (by simp [length_cL]))
      clear hans1 HRb HBb
      go_upto_region 5 with fail
      rw [← hWb]
      clear hWb
      go_wp2_with (go_at_call 39; refine HADD.out.mono ?_; rintro _ w9 ⟨rfl, HK⟩)
      obtain ⟨L2, h1, h2, h3⟩ := HK.out
      exact ⟨⟨i + 1, L2, by simp, by omega, h1, h2, h3⟩, by simp only [RowKit.intOf]; omega⟩
    · obtain rfl : i = mm := by omega
      have r44 := HR1.out.fields.drawn
      have f44 := HR1.out.fields.thaw 44
      have HF : Hid (DrawPost w bl L Z i (.returned (.tuple #[])) (wr.setCell ⟨bl, 44, none⟩ (.int .i64 (kn : Int)))) := by
        refine ⟨rfl, L1, HG.out, ?_, HC.out.setCell _ _ (fun _ => .inl rfl)⟩
        rw [HNum.out.2]
        exact HR1.out.setDrawn _
      go_wp2
      go_end0
      exact HF.out
end Go.Proofs.Ybulkchfs
