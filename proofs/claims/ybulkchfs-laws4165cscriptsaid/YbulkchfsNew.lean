/- CONTRACT OF New (36). -/
import Derived.Test.YbulkchfsDraw
namespace Go.Proofs.Ybulkchfs
open Go.RowKit Go.Lib
set_option linter.unusedVariables false
set_option linter.unusedSimpArgs false
attribute [local go_sem ↓] ldI_eq ldC_eq stI_eq stC_eq bxI_eq bxC_eq nwI_eq nwC_eq
attribute [local go_sem] load_id load_contact store_id store_contact box_id box_contact new_id new_contact
attribute [local go_sem] arr?_drew arr?_drewN arr?_alloc_past arr?_alloc_at arr?_setCell arr?_setA arr?_setA_same can?_drew can?_drewN can?_alloc_past can?_alloc_at can?_setCell can?_setA cell_setA frozen_setA size_setA agg_aL agg_cL size_aL size_cL length_aL length_cL

/-- The cells of a Lookup as New lays it. -/
def lkL (A T : Nat → Int) (k al : Int) (own : Value) (br : Nat) : List Value :=
  aL A ++ (aL T ++ ([.int .i64 k, .int .i64 al, .int .i64 0, own, .int .i64 0, .int .i64 0, .slice none 0 0, .map (some br)] ++ (aL zeroF ++ [.int .i64 0, .int .i64 0, .int .i64 0, .int .i64 0, .int .i64 0, .bool false, .bool false, .nilFunc])))
def lkV (A T : Nat → Int) (k al : Int) (own : Value) (br : Nat) : Value := .agg (lkL A T k al own br).toArray
def mkM : Sem Value := Instr.makeMap 78 none
theorem mkM_eq : Instr.makeMap 78 none = mkM := rfl
theorem make_map (w : World) : mkM.run Yba.prog w = .ok (.map (some w.heap.size)) (w.alloc (.map #[] 0)) := rfl
def bdL (p : Array (Nat × Value)) : Sem Value := Instr.build 80 p
theorem bdL_eq (p : Array (Nat × Value)) : Instr.build 80 p = bdL p := rfl
theorem build_lookup (A T : Nat → Int) (k al : Int) (bv br : Nat) (w : World) : (bdL #[(0, aV A), (1, aV T), (2, .int .i64 k), (3, .int .i64 al), (4, .int .i64 0), (5, .func (.func 35) #[] #[pb bv]), (9, .map (some br))]).run Yba.prog w = .ok (lkV A T k al (.func (.func 35) #[] #[pb bv]) br) w := by kernel_rfl
def bxL (v : Value) : Sem Value := Instr.box 80 v
theorem bxL_eq (v : Value) : Instr.box 80 v = bxL v := rfl
theorem box_lookup (A T : Nat → Int) (k al : Int) (own : Value) (br : Nat) (w : World) : (bxL (lkV A T k al own br)).run Yba.prog w = .ok (.pointer (some ⟨w.heap.size, 0, none⟩)) (w.alloc (.cells (lkL A T k al own br).toArray 80)) := rfl
def bxS (v : Value) : Sem Value := Instr.box 116 v
theorem bxS_eq (v : Value) : Instr.box 116 v = bxS v := rfl
theorem box_settings (k al : Int) (w : World) : (bxS (.agg #[.int .i64 k, .int .i64 al, .int .i64 0])).run Yba.prog w = .ok (.pointer (some ⟨w.heap.size, 0, none⟩)) (w.alloc (.cells #[.int .i64 k, .int .i64 al, .int .i64 0] 116)) := rfl

def st0 (br : Nat) (self t k al : Int) (own : Value) : St :=
  { n := 0, bs := 0, cap := 0, br := br, E := fun _ => 0, X := fun _ => 0, S := fun _ => 0, D := fun _ => 0, T := fun _ => 0, K := [], self := self, t := t, k := k, alpha := al, own := own, drawn := 0, N := ffF, adv := 0, stalled := 0, active := 0, out := 0, answered := 0, over := false }

theorem lk_at (A T : Nat → Int) (k al : Int) (own : Value) (br : Nat) :
    (∀ i, i < 20 → (lkL A T k al own br)[i]? = some (.int .u8 (A i))) ∧ (∀ i, i < 20 → (lkL A T k al own br)[20 + i]? = some (.int .u8 (T i))) ∧ (∀ i, i < 20 → (lkL A T k al own br)[48 + i]? = some (.int .u8 0)) := by
  refine ⟨fun i hi => ?_, fun i hi => ?_, fun i hi => ?_⟩
  · unfold lkL
    rw [List.getElem?_append_left (by rw [length_aL]; exact hi)]; exact aL_at A hi
  · unfold lkL
    rw [List.getElem?_append_right (by rw [length_aL]; omega), length_aL, Nat.add_sub_cancel_left, List.getElem?_append_left (by rw [length_aL]; exact hi)]; exact aL_at T hi
  · unfold lkL
    rw [List.getElem?_append_right (by rw [length_aL]; omega), length_aL, List.getElem?_append_right (by rw [length_aL]; omega), length_aL, List.getElem?_append_right (by simp; omega)]
    have : 48 + i - 20 - 20 - [Value.int .i64 k, .int .i64 al, .int .i64 0, own, .int .i64 0, .int .i64 0, .slice none 0 0, .map (some br)].length = i := by simp; omega
    rw [this, List.getElem?_append_left (by rw [length_aL]; exact hi)]
    exact aL_at zeroF hi

/-- AFTER i ROUNDS of the loop that lays the greatest distance. -/
structure Near (W : World) (bl i : Nat) (wr : World) : Prop where
  chg : Chg (fun k => k = bl) W wr
  other : ∀ o, o < 48 ∨ 68 ≤ o → wr.cell? ⟨bl, o, none⟩ = W.cell? ⟨bl, o, none⟩
  near : ∀ j, j < 20 → wr.cell? ⟨bl, 48 + j, none⟩ = some (.int .u8 (if j < i then 255 else 0))
  thaw : ∀ o, wr.frozen? ⟨bl, o, none⟩ = false

theorem Near.step {W wr : World} {bl i : Nat} (h : Near W bl i wr) (hi : i < 20) : Near W bl (i + 1) (wr.setCell ⟨bl, 48 + i, none⟩ (.int .u8 255)) := by
  refine ⟨h.chg.setCell _ _ (fun _ => rfl), fun o ho => ?_, fun j hj => ?_, fun o => ?_⟩
  · rw [cell_set_other _ (by omega)]; exact h.other o ho
  · by_cases e : j = i
    · subst e
      rw [cell_set_same _ (h.near j hj), if_pos (by omega)]
    · rw [cell_set_other _ (by omega), h.near j hj]
      by_cases h1 : j < i
      · rw [if_pos h1, if_pos (by omega)]
      · rw [if_neg h1, if_neg (by omega)]
  · rw [World.frozen?_setCell]; exact h.thaw o

theorem rep_new {w wr : World} (A T : Int) (k al : Int) (own : Value) (br : Nat) (hT : 0 ≤ T ∧ T ≤ 255) (hbr : w.heap[br]? = some (.map #[] 0))
    (h : Near (w.alloc (.cells (lkL (idF A) (idF T) k al own br).toArray 80)) w.heap.size 20 wr) : Rep wr w.heap.size (st0 br A T k al own) := by
  have hlt : br < w.heap.size := (Array.getElem?_eq_some_iff.1 hbr).1
  have hc : ∀ o, o < 48 ∨ 68 ≤ o → wr.cell? ⟨w.heap.size, o, none⟩ = (lkL (idF A) (idF T) k al own br)[o]? := fun o ho => by
    rw [h.other o ho, World.cell?_alloc_at _ _ _ _ rfl, List.getElem?_toArray]
  obtain ⟨a1, a2, _⟩ := lk_at (idF A) (idF T) k al own br
  have hf : Fields wr w.heap.size (st0 br A T k al own) := by
    refine ⟨?_, ?_, hc 40 (by omega), hc 41 (by omega), hc 42 (by omega), hc 43 (by omega), hc 44 (by omega), hc 45 (by omega), hc 46 (by omega), hc 47 (by omega), ?_, hc 68 (by omega), hc 69 (by omega), hc 70 (by omega), hc 71 (by omega), hc 72 (by omega), hc 73 (by omega), hc 74 (by omega), hc 75 (by omega), h.thaw⟩
    · refine arr?_of (length_aL _) (fun j v hj => ?_)
      have hj' : j < 20 := by have := (List.getElem?_eq_some_iff.1 hj).1; rwa [length_aL] at this
      rw [aL_at _ hj'] at hj
      rw [hc _ (by omega), Nat.zero_add, a1 j hj']; exact hj
    · refine arr?_of (length_aL _) (fun j v hj => ?_)
      have hj' : j < 20 := by have := (List.getElem?_eq_some_iff.1 hj).1; rwa [length_aL] at this
      rw [aL_at _ hj'] at hj
      rw [hc _ (by omega), a2 j hj']; exact hj
    · refine arr?_of (length_aL _) (fun j v hj => ?_)
      have hj' : j < 20 := by have := (List.getElem?_eq_some_iff.1 hj).1; rwa [length_aL] at this
      rw [aL_at _ hj'] at hj
      rw [h.near j hj', if_pos hj']; exact hj
  have hn : ∀ i, i < (st0 br A T k al own).n → False := fun i hi => absurd hi (Nat.not_lt_zero _)
  refine { fields := hf, map := ⟨#[], 0, ?_, rfl⟩, row := ⟨Nat.le_refl _, by show 0 ≤ _; omega, fun i hi => (hn i hi).elim, fun i hi => (hn i hi).elim, fun i hi => (hn i hi).elim⟩, ent := fun i hi => (hn i hi).elim, byte := fun i hi => (hn i hi).elim, tbyte := hT, rise := fun i j _ hj => (hn j hj).elim, led := fun i hi => (hn i hi).elim, back := fun b x h => (by cases h), len := rfl, apart := fun i hi => (hn i hi).elim, apart2 := ⟨?_, fun h => absurd h (Nat.lt_irrefl _)⟩, nbyte := byt_ff, advs := ⟨Int.le_refl _, Int.le_refl _⟩, stalls := ⟨Int.le_refl _, Int.le_refl _⟩, depths := fun i hi => (hn i hi).elim }
  · show wr.heap[br]? = _
    rw [h.chg.block br (by simp; omega) (by omega), ← hbr]
    exact ((Below.refl w.heap.size w).alloc (Nat.le_refl _) _).block _ hlt
  · show w.heap.size ≠ br
    omega

/-- The lookup's blocks all lie at B or behind. -/
def Fresh (B bl : Nat) (L : St) : Prop := ∀ k, Own bl L k → B ≤ k

def NewPost (w : World) (self t al : Int) (kn : Nat) (r : Ending) (w' : World) : Prop :=
  ∃ bl L, r = .returned (pb bl) ∧ Rep w' bl L ∧ Fresh w.heap.size bl L ∧ L.k = (kn : Int) ∧ L.alpha = al ∧ L.self = self ∧ L.t = t ∧ L.drawn = L.k ∧ L.active = 0 ∧ L.out = 0 ∧ L.answered = 0 ∧ (∀ i, i < L.n → L.S (L.E i) = 0) ∧ Below w.heap.size w w'

attribute [local go_sem ↓] mkM_eq bdL_eq bxL_eq bxS_eq
attribute [local go_sem] make_map build_lookup box_lookup box_settings

set_option maxRecDepth 100000 in
theorem new_any (w : World) (self t al : Int) (kn bv zb zn zcap : Nat) (Z : Nat → Int) (ht : 0 ≤ t ∧ t ≤ 255) (hkn : 1 ≤ kn ∧ kn ≤ 1000)
    (hbv : w.cell? ⟨bv, 0, none⟩ = some (.slice (some ⟨zb, 0, none⟩) zn zcap)) (hzn : 1 ≤ zn ∧ zn ≤ 100000) (hrow : RowW w 24 zb zn zcap (conts Z)) (hbyte : ∀ j, j < zn → 0 ≤ Z j ∧ Z j ≤ 255) :
    Calls Yba.prog 36 #[aV (idF self), aV (idF t), .func (.func 35) #[] #[pb bv], .agg #[.int .i64 (kn : Int), .int .i64 al, .int .i64 0]] w (NewPost w self t al kn) := by
  obtain ⟨W2, hW2⟩ : ∃ W2, W2 = ((w.alloc (.cells (aL (idF self)).toArray 62)).alloc (.cells (aL (idF t)).toArray 62)).alloc (.cells #[.int .i64 (kn : Int), .int .i64 al, .int .i64 0] 116) := ⟨_, rfl⟩
  have hs2 : W2.heap.size = w.heap.size + 3 := by rw [hW2]; simp
  have hB2 : Below w.heap.size w W2 := by
    rw [hW2]
    exact (((Below.refl _ w).alloc (Nat.le_refl _) _).alloc (by simp) _).alloc (by simp; omega) _
  have g0 : arr? W2 20 w.heap.size 0 = some (aL (idF self)) := by
    rw [hW2, arr?_alloc_past _ _ _ _ _ (by simp; omega), arr?_alloc_past _ _ _ _ _ (by simp), arr?_alloc_at _ _ _ _ _ rfl (length_aL _)]
  have g1 : arr? W2 20 (w.heap.size + 1) 0 = some (aL (idF t)) := by
    rw [hW2, arr?_alloc_past _ _ _ _ _ (by simp), arr?_alloc_at _ _ _ _ _ (by simp) (length_aL _)]
  have g2 : ∀ o, W2.cell? ⟨w.heap.size + 1 + 1, o, none⟩ = (#[Value.int .i64 (kn : Int), .int .i64 al, .int .i64 0])[o]? := fun o => by
    rw [hW2, World.cell?_alloc_at _ _ _ _ (by simp)]
  have k0 := g2 0
  have k1 := g2 1
  have k2 := g2 2
  simp only [Array.getElem?_eq_getElem, List.size_toArray, List.length_cons, List.length_nil, Nat.reduceAdd, Nat.reduceLT, List.getElem_toArray, List.getElem_cons_zero, List.getElem_cons_succ] at k0 k1 k2
  obtain ⟨br, hbr⟩ : ∃ br, br = w.heap.size + 3 := ⟨_, rfl⟩
  obtain ⟨bl, hbl⟩ : ∃ bl, bl = w.heap.size + 3 + 1 := ⟨_, rfl⟩
  obtain ⟨fv, hfv⟩ : ∃ fv : Value, fv = .func (.func 35) #[] #[pb bv] := ⟨_, rfl⟩
  obtain ⟨W3, hW3⟩ : ∃ W3, W3 = W2.alloc (.map #[] 0) := ⟨_, rfl⟩
  obtain ⟨W, hW⟩ : ∃ W, W = W3.alloc (.cells (lkL (idF self) (idF t) kn al (.func (.func 35) #[] #[pb bv]) (w.heap.size + 3)).toArray 80) := ⟨_, rfl⟩
  have hs3 : W3.heap.size = bl := by rw [hW3]; simp; omega
  have hBW : Below w.heap.size w W := by
    rw [hW, hW3]
    exact (hB2.alloc (by omega) _).alloc (by simp; omega) _
  have HB : Hid (Below w.heap.size w W) := hBW
  have h3 : W3.heap[br]? = some (.map #[] 0) := by
    rw [hW3, hbr, ← hs2]
    show (W2.heap.push _)[W2.heap.size]? = _
    rw [Array.getElem?_push_size]
  have HN0 : Hid (Near W bl 0 W) := by
    obtain ⟨_, _, a3⟩ := lk_at (idF self) (idF t) kn al (.func (.func 35) #[] #[pb bv]) (w.heap.size + 3)
    rw [← hs3]
    refine ⟨Chg.refl _ _, fun _ _ => rfl, fun j hj => ?_, fun o => ?_⟩
    · rw [hW, World.cell?_alloc_at _ _ _ _ rfl, List.getElem?_toArray, a3 j hj, if_neg (by omega)]
    · rw [hW]; exact World.frozen?_alloc_at _ _ _ _ rfl
  have HRep : Hid (∀ wr, Near W bl 20 wr → Rep wr bl (st0 br self t kn al fv)) := fun wr h => by
    have h' := h
    rw [hW, ← hfv, ← hbr, ← hs3] at h'
    have := rep_new (w := W3) self t kn al fv br ht h3 h'
    rw [hs3] at this
    exact this
  have HDR : Hid (∀ wr, Near W bl 20 wr → Calls Yba.prog 44 #[pb bl] wr fun r w' => r = .returned (.tuple #[]) ∧ Hid (NewPost w self t al kn (.returned (pb bl)) w')) := fun wr h => by
    have hbvl : bv < w.heap.size := block_lt_of_cell hbv
    have hzl : zb < w.heap.size := hrow.lt (by omega) (by have := hrow.le; omega)
    have hws : w.heap.size ≤ W.heap.size := hBW.size
    have hblk : ∀ k, k < w.heap.size → wr.heap[k]? = w.heap[k]? := fun k hk => (h.chg.block k (by omega) (by omega)).trans (hBW.block k hk)
    refine (draw_first wr bl (st0 br self t kn al fv) bv zb zn zcap kn Z (HRep.out wr h) rfl hkn rfl rfl rfl hfv ((cell_of_heap (hblk _ hbvl) _).trans hbv) hzn (hrow.keep (fun _ => hblk _ hzl)) hbyte ?_ ⟨Int.le_refl _, by show (0:Int) ≤ _; omega⟩).mono ?_
    · rintro (h1 | h1 | ⟨h1, h2⟩ | ⟨i, hi, _⟩)
      · omega
      · have : zb = br := h1
        omega
      · exact absurd h1 (Nat.lt_irrefl _)
      · exact absurd hi (Nat.not_lt_zero _)
    · rintro r w' ⟨hr, L1, hG, hR, hC⟩
      have hwr : w.heap.size ≤ wr.heap.size := Nat.le_trans hws h.chg.size
      have hS : ∀ i, i < L1.n → L1.S (L1.E i) = 0 ∧ wr.heap.size ≤ L1.E i := fun i hi => by
        rcases hG.from' i hi with ⟨j, hj, _⟩ | h1
        · exact absurd hj (Nat.not_lt_zero _)
        · exact h1
      obtain ⟨r1, r2, r3, r4, r5, r6, r7, r8, r9, r10, r11⟩ := hG.rest
      refine ⟨hr, bl, _, rfl, hR, ?_, r4, r5, r2, r3, r4.symm, r8, r9, r10, fun i hi => (hS i hi).1, ?_⟩
      · rintro k (h1 | h1 | ⟨h1, h2⟩ | ⟨i, hi, h1⟩)
        · omega
        · have : k = L1.br := h1
          have : L1.br = br := r1
          omega
        · have h2' : k = L1.bs := h2
          have h1' : 0 < L1.cap := h1
          rcases hG.row with ⟨_, h4⟩ | h4 | h4
          · exact absurd h4 (Nat.lt_irrefl _)
          · omega
          · omega
        · have h2 := (hS i hi).2
          have h1' : k = L1.E i := h1
          omega
      · refine (hBW.trans (h.chg.below hws (fun k hk h1 => by omega))).trans (hC.below hwr (fun k hk h1 => ?_))
        rcases h1 with h1 | h1 | ⟨h1, h2⟩ | ⟨i, hi, _⟩
        · omega
        · have : k = br := h1
          omega
        · exact absurd h1 (Nat.lt_irrefl _)
        · exact absurd hi (Nat.not_lt_zero _)
  clear g2 hBW h3 HRep hbv hrow hbyte hzn hkn ht
  go_enter Yba.func36, Yba.ntmps36
  go_upto_region 1 with fail
  rw [← hW2]
  clear hW2
  go_wp2
  rw [← hW3, ← hW, ← hbl]
  clear hW3 hW hs3 k0 k1 k2 hB2 g0 g1 hs2
  have HBL : Hid (bl = w.heap.size + 3 + 1) := hbl
  clear hbl hbr hfv
  go_loopw [10, 23] (fun _ ix wr => ∃ i : Nat, ix = .int .i64 (i : Int) ∧ i ≤ 20 ∧ Near W bl i wr) (fun _ ix _ => 20 - (RowKit.intOf ix).toNat)
  case atStart => exact ⟨0, rfl, by omega, HN0.out⟩
  case round =>
    obtain ⟨i, rfl, hi, hne⟩ := hrel
    have HNe : Hid (Near W bl i wr) := hne
    clear hne
    by_cases hlt : i < 20
    · have c1 := HNe.out.near i hlt
      rw [if_neg (by omega)] at c1
      have f1 := HNe.out.thaw (48 + i)
      have hi1 : (0:Int) ≤ (i:Int) := by omega
      have hi2 : (i:Int) < 20 := by omega
      go_wp2
      exact ⟨⟨i + 1, by simp, by omega, HNe.out.step hlt⟩, by simp only [RowKit.intOf]; omega⟩
    · obtain rfl : i = 20 := by omega
      go_wp2_with (go_at_call 44; refine (HDR.out _ HNe.out).mono ?_; rintro _ w9 ⟨rfl, HK⟩)
      go_ret
      exact HK.out
end Go.Proofs.Ybulkchfs
