/- CONTRACTS OF THE CLOSURE (*Lookup).add$1 (49) AND OF slices.BinarySearchFunc (48) AT IT. -/
import Derived.Test.YbulkchfsMem
namespace Go.Proofs.Ybulkchfs
open Go.RowKit
set_option linter.unusedVariables false
set_option linter.unusedSimpArgs false
attribute [local go_sem ↓] ldI_eq ldC_eq stI_eq stC_eq bxI_eq bxC_eq nwI_eq nwC_eq
attribute [local go_sem] load_id load_contact store_id store_contact box_id box_contact new_id new_contact
attribute [local go_sem] arr?_drew arr?_drewN arr?_alloc_past arr?_alloc_at arr?_setCell arr?_setA arr?_setA_same can?_drew can?_drewN can?_alloc_past can?_alloc_at can?_setCell can?_setA cell_setA frozen_setA size_setA agg_aL agg_cL set_aL lset_aL size_aL size_cL length_aL length_cL
attribute [local go_sem] cell_up arr?_up frozen_up

theorem closure_any (w : World) (be bv bl : Nat) (x t : Int) (D : Nat → Int) (hx : 0 ≤ x ∧ x ≤ 255) (ht : 0 ≤ t ∧ t ≤ 255) (hD : Byt D)
    (he : arr? w 20 be 0 = some (aL (idF x))) (hv : w.cell? ⟨bv, 0, none⟩ = some (pb bl)) (hl : arr? w 20 bl 20 = some (aL (idF t))) (sbe : be < w.heap.size) (sbv : bv < w.heap.size) (sbl : bl < w.heap.size) :
    Calls Yba.prog 49 #[pb be, aV D, pb bv] w fun e w' => e = .returned (.int .i64 (cmpF (idF (dst x t)) D)) ∧ Below w.heap.size w w' := by
  obtain ⟨W, hW⟩ : ∃ W, W = w.alloc (.cells (aL D).toArray 62) := ⟨_, rfl⟩
  have he' : arr? W 20 be 0 = some (aL (idF x)) := by rw [hW, arr?_alloc_past _ _ _ _ _ sbe]; exact he
  have hv' : W.cell? ⟨bv, 0, none⟩ = some (pb bl) := by rw [hW, World.cell?_alloc_past _ _ _ sbv]; exact hv
  have hl' : arr? W 20 bl 20 = some (aL (idF t)) := by rw [hW, arr?_alloc_past _ _ _ _ _ sbl]; exact hl
  have hd' : arr? W 20 w.heap.size 0 = some (aL D) := by rw [hW, arr?_alloc_at _ _ _ _ _ rfl (length_aL _)]
  have hs : W.heap.size = w.heap.size + 1 := by rw [hW]; simp
  have s1 : be < W.heap.size := by omega
  have s2 : bv < W.heap.size := by omega
  have s3 : bl < W.heap.size := by omega
  have s4 : w.heap.size < W.heap.size := by omega
  have HW : Hid (Below w.heap.size w W) := by rw [hW]; exact (Below.refl _ w).alloc (Nat.le_refl _) _
  go_enter Yba.func49, Yba.ntmps49
  go_wp2
  rw [← hW]
  clear hW he hv hl hs sbe sbv sbl
  refine wp_region_up (by kernel_rfl) (by kernel_rfl) ?_
  repeat (go_big_quiet_step ((first | (go_at_call 47; exact up_call (dist_any _ _ _)) | (go_at_call 50; exact up_call (cmp_any _ _ (by rw [xorF_id]; exact byt_id (dst_byte hx ht)) hD _)))))
  refine wpQuiet_nil ?_
  intro _ hw
  obtain ⟨g, rfl⟩ := hw
  go_wp2
  go_ret
  rw [← xorF_id]
  exact ⟨rfl, HW.out.trans ((up_below _ g).mono (Nat.le_of_lt s4))⟩

/-- The shortlist in memory: n entries; entry i lies in block E i and bears the id X i; their distances from t rise. -/
structure Short (w : World) (bs n cap : Nat) (E : Nat → Nat) (X : Nat → Int) (t : Int) : Prop where
  ptr : ∀ i, i < n → w.cell? ⟨bs, i, none⟩ = some (pb (E i))
  id : ∀ i, i < n → arr? w 20 (E i) 0 = some (aL (idF (X i)))
  byte : ∀ i, i < n → 0 ≤ X i ∧ X i ≤ 255
  rise : ∀ i j, i < j → j < n → dst (X i) t < dst (X j) t
  lt : ∀ i, i < n → E i < w.heap.size

theorem Short.below {w w' : World} {bs n cap : Nat} {E : Nat → Nat} {X : Nat → Int} {t : Int} (h : Short w bs n cap E X t) (hb : Below w.heap.size w w') (hs : 0 < n → bs < w.heap.size) : Short w' bs n cap E X t :=
  ⟨fun i hi => (hb.cell (p := ⟨bs, i, none⟩) (hs (by omega))).trans (h.ptr i hi),
   fun i hi => (arr?_congr fun j _ => hb.cell (p := ⟨E i, 0 + j, none⟩) (h.lt i hi)).trans (h.id i hi), h.byte, h.rise, fun i hi => Nat.lt_of_lt_of_le (h.lt i hi) hb.size⟩

theorem search_any (w : World) (ad : Option Addr) (bs n cap bv bl : Nat) (E : Nat → Nat) (X : Nat → Int) (t d : Int) (ht : 0 ≤ t ∧ t ≤ 255) (hd : 0 ≤ d ∧ d ≤ 255) (hn : n ≤ 1024) (had : 0 < n → ad = some ⟨bs, 0, none⟩ ∧ bs < w.heap.size)
    (hS : Short w bs n cap E X t) (hv : w.cell? ⟨bv, 0, none⟩ = some (pb bl)) (hl : arr? w 20 bl 20 = some (aL (idF t))) (sbv : bv < w.heap.size) (sbl : bl < w.heap.size) :
    Calls Yba.prog 48 #[.slice ad n cap, aV (idF d), .func (.func 49) #[] #[pb bv]] w fun e w' => ∃ (p : Nat) (f : Bool), e = .returned (.tuple #[.int .i64 p, .bool f]) ∧ p ≤ n ∧ (∀ j, j < p → dst (X j) t < d) ∧ (∀ j, p ≤ j → j < n → d ≤ dst (X j) t) ∧ Below w.heap.size w w' := by
  obtain ⟨W, hW⟩ : ∃ W, W = w.alloc (.cells (aL (idF d)).toArray 62) := ⟨_, rfl⟩
  have hs : W.heap.size = w.heap.size + 1 := by rw [hW]; simp
  have hB : Below w.heap.size w W := by rw [hW]; exact (Below.refl _ w).alloc (Nat.le_refl _) _
  have hd' : arr? W 20 w.heap.size 0 = some (aL (idF d)) := by rw [hW, arr?_alloc_at _ _ _ _ _ rfl (length_aL _)]
  have HS : Hid (Short W bs n cap E X t) := hS.below hB (fun h => (had h).2)
  have HW : Hid (Below w.heap.size w W) := hB
  have HN : Hid (0 < n → ad = some ⟨bs, 0, none⟩ ∧ bs < W.heap.size) := fun h => ⟨(had h).1, by have := (had h).2; omega⟩
  have hv' : W.cell? ⟨bv, 0, none⟩ = some (pb bl) := by rw [hW, World.cell?_alloc_past _ _ _ sbv]; exact hv
  have hl' : arr? W 20 bl 20 = some (aL (idF t)) := by rw [hW, arr?_alloc_past _ _ _ _ _ sbl]; exact hl
  have s2 : bv < W.heap.size := by omega
  have s3 : bl < W.heap.size := by omega
  have s4 : w.heap.size < W.heap.size := by omega
  go_enter Yba.func48, Yba.ntmps48
  go_wp2
  rw [← hW]
  clear hW hB hS hv hl sbv sbl hs had
  go_loopw [9, 10, 11] (fun i j _ wr => ∃ (p q : Nat), p ≤ q ∧ q ≤ n ∧ i = .int .i64 p ∧ j = .int .i64 q ∧ (∀ k, k < p → dst (X k) t < d) ∧ (∀ k, q ≤ k → k < n → d ≤ dst (X k) t) ∧ Below W.heap.size W wr) (fun i j _ _ => (intOf j - intOf i).toNat)
  case atStart => exact ⟨0, n, Nat.zero_le _, Nat.le_refl _, rfl, rfl, fun k hk => absurd hk (by omega), fun k h1 h2 => absurd h1 (by omega), Below.refl _ _⟩
  case round =>
    obtain ⟨p, q, hpq, hq, rfl, rfl, hlo, hhi, hb⟩ := hrel
    have HLo : Hid (∀ k, k < p → dst (X k) t < d) := hlo
    have HHi : Hid (∀ k, q ≤ k → k < n → d ≤ dst (X k) t) := hhi
    have HB : Hid (Below W.heap.size W wr) := hb
    clear hlo hhi hb
    by_cases hlt : p < q
    · obtain ⟨rfl, sbs⟩ := HN.out (by omega)
      obtain ⟨m, hm⟩ : ∃ m : Nat, m = (p + q) / 2 := ⟨_, rfl⟩
      have hmp : p ≤ m := by omega
      have hmq : m < q := by omega
      have hmI : Hid (((p : Int) + (q : Int)) / 2 = (m : Int)) := by show _ = _; omega
      have hcell : wr.cell? ⟨bs, m, none⟩ = some (pb (E m)) := (HB.out.cell (p := ⟨bs, m, none⟩) sbs).trans (HS.out.ptr m (by omega))
      have hE : E m < W.heap.size := HS.out.lt m (by omega)
      have hid : arr? wr 20 (E m) 0 = some (aL (idF (X m))) := (arr?_congr fun j _ => HB.out.cell (p := ⟨E m, 0 + j, none⟩) hE).trans (HS.out.id m (by omega))
      have hvr : wr.cell? ⟨bv, 0, none⟩ = some (pb bl) := (HB.out.cell (p := ⟨bv, 0, none⟩) s2).trans hv'
      have hlr : arr? wr 20 bl 20 = some (aL (idF t)) := (arr?_congr fun j _ => HB.out.cell (p := ⟨bl, 20 + j, none⟩) s3).trans hl'
      have hdr : arr? wr 20 w.heap.size 0 = some (aL (idF d)) := (arr?_congr fun j _ => HB.out.cell (p := ⟨w.heap.size, 0 + j, none⟩) s4).trans hd'
      have hsz := HB.out.size
      have hX := HS.out.byte m (by omega)
      have r1 : bs < wr.heap.size := by omega
      have r2 : E m < wr.heap.size := by omega
      have r3 : bv < wr.heap.size := by omega
      have r4 : bl < wr.heap.size := by omega
      have r5 : w.heap.size < wr.heap.size := by omega
      have r6 : (0:Int) ≤ (m:Int) := by omega
      have r7 : (m:Int) < (n:Int) := by omega
      have r8 : m < n := by omega
      have HM : Hid (p ≤ m ∧ m < q) := ⟨hmp, hmq⟩
      clear hv' hl' hd' hm hmp hmq
      go_wp2
      rw [hmI.out]
      refine wp_region_up (by kernel_rfl) (by kernel_rfl) ?_
      repeat (go_big_quiet_step ((first | (go_at_call 49; exact up_call (closure_any _ _ _ _ _ _ _ hX ht (byt_id hd) (by rw [arr?_up _ _ _ _ _ r2]; exact hid) (by rw [cell_up _ _ _ _ r3]; exact hvr) (by rw [arr?_up _ _ _ _ _ r4]; exact hlr) (Nat.lt_of_lt_of_le r2 (size_up _ _)) (Nat.lt_of_lt_of_le r3 (size_up _ _)) (Nat.lt_of_lt_of_le r4 (size_up _ _)))))))
      refine wpQuiet_nil ?_
      intro _ hw
      obtain ⟨g, rfl⟩ := hw
      have HB2 : Hid (Below W.heap.size W (up wr g)) := HB.out.trans ((up_below wr g).mono HB.out.size)
      by_cases hc : dst (X m) t < d
      · have hcm : cmpF (idF (dst (X m) t)) (idF d) = -1 := by rw [cmpF_id, if_pos hc]
        go_wp2
        obtain ⟨h1, h2⟩ := HM.out
        refine ⟨⟨m + 1, q, by omega, by omega, by simp, rfl, fun k hk => ?_, HHi.out, HB2.out⟩, ?_⟩
        · by_cases e : k = m
          · rw [e]; exact hc
          · have := HS.out.rise k m (by omega) (by omega); omega
        · simp only [intOf]; omega
      · have hcm : ¬ (cmpF (idF (dst (X m) t)) (idF d) < 0) := by rw [cmpF_id, if_neg hc]; split <;> omega
        go_wp2
        obtain ⟨h1, h2⟩ := HM.out
        refine ⟨⟨p, m, by omega, by omega, rfl, by simp, HLo.out, fun k hk hkn => ?_, HB2.out⟩, ?_⟩
        · by_cases e : k = m
          · rw [e]; omega
          · have := HS.out.rise m k (by omega) (by omega); omega
        · simp only [intOf]; omega
    · obtain rfl : p = q := by omega
      have hsz := HB.out.size
      have HF : Hid (Below w.heap.size w wr) := HW.out.trans (HB.out.mono (by omega))
      by_cases hpn : p < n
      · obtain ⟨rfl, sbs⟩ := HN.out (by omega)
        have hcell : wr.cell? ⟨bs, p, none⟩ = some (pb (E p)) := (HB.out.cell (p := ⟨bs, p, none⟩) sbs).trans (HS.out.ptr p (by omega))
        have hE : E p < W.heap.size := HS.out.lt p (by omega)
        have hid : arr? wr 20 (E p) 0 = some (aL (idF (X p))) := (arr?_congr fun j _ => HB.out.cell (p := ⟨E p, 0 + j, none⟩) hE).trans (HS.out.id p (by omega))
        have hvr : wr.cell? ⟨bv, 0, none⟩ = some (pb bl) := (HB.out.cell (p := ⟨bv, 0, none⟩) s2).trans hv'
        have hlr : arr? wr 20 bl 20 = some (aL (idF t)) := (arr?_congr fun j _ => HB.out.cell (p := ⟨bl, 20 + j, none⟩) s3).trans hl'
        have hdr : arr? wr 20 w.heap.size 0 = some (aL (idF d)) := (arr?_congr fun j _ => HB.out.cell (p := ⟨w.heap.size, 0 + j, none⟩) s4).trans hd'
        have hX := HS.out.byte p (by omega)
        have r1 : bs < wr.heap.size := by omega
        have r2 : E p < wr.heap.size := by omega
        have r3 : bv < wr.heap.size := by omega
        have r4 : bl < wr.heap.size := by omega
        have r5 : w.heap.size < wr.heap.size := by omega
        have r6 : (0:Int) ≤ (p:Int) := by omega
        have r7 : (p:Int) < (n:Int) := by omega
        have hdc : decide ((p:Int) < (n:Int)) = true := by simpa using hpn
        have hdc' : decide (p < n) = true := by simpa using hpn
        clear hv' hl' hd'
        go_wp2
        refine wp_region_up (by kernel_rfl) (by kernel_rfl) ?_
        repeat (go_big_quiet_step ((first | (go_at_call 49; exact up_call (closure_any _ _ _ _ _ _ _ hX ht (byt_id hd) (by rw [arr?_up _ _ _ _ _ r2]; exact hid) (by rw [cell_up _ _ _ _ r3]; exact hvr) (by rw [arr?_up _ _ _ _ _ r4]; exact hlr) (Nat.lt_of_lt_of_le r2 (size_up _ _)) (Nat.lt_of_lt_of_le r3 (size_up _ _)) (Nat.lt_of_lt_of_le r4 (size_up _ _)))))))
        refine wpQuiet_nil ?_
        intro _ hw
        obtain ⟨g, rfl⟩ := hw
        have HF2 : Hid (Below w.heap.size w (up wr g)) := HF.out.trans ((up_below wr g).mono HF.out.size)
        go_wp2
        go_ret2
        exact ⟨p, _, rfl, by omega, HLo.out, HHi.out, HF2.out⟩
      · have hdc : decide ((p:Int) < (n:Int)) = false := by simpa using hpn
        have hdc' : decide (p < n) = false := by simpa using hpn
        go_wp2
        refine wp_region_up (by kernel_rfl) (by kernel_rfl) ?_
        repeat (go_big_quiet_step (fail))
        refine wpQuiet_nil ?_
        intro _ hw
        obtain ⟨g, rfl⟩ := hw
        have HF2 : Hid (Below w.heap.size w (up wr g)) := HF.out.trans ((up_below wr g).mono HF.out.size)
        go_wp2
        go_ret2
        exact ⟨p, _, rfl, by omega, HLo.out, HHi.out, HF2.out⟩
end Go.Proofs.Ybulkchfs
