/- CONTRACTS OF zzs4165ccontacts (20) AND zzs4165cin (21). -/
import Derived.Test.YbulkchfsReplied
import Derived.Laws.MakeOwn
namespace Go.Proofs.Ybulkchfs
open Go.RowKit Go.Lib
set_option linter.unusedVariables false
set_option linter.unusedSimpArgs false
attribute [local go_sem ↓] ldI_eq ldC_eq stI_eq stC_eq bxI_eq bxC_eq nwI_eq nwC_eq bdC_eq bsC_eq bsI_eq eqI_eq neI_eq egI_eq
attribute [local go_sem] load_id load_contact store_id store_contact box_id box_contact new_id new_contact build_contact build_zero build_contacts build_ids eq_id ne_id guard_id guard_id'
attribute [local go_sem] arr?_drew arr?_drewN arr?_alloc_past arr?_alloc_at arr?_setCell arr?_setA arr?_setA_same can?_drew can?_drewN can?_alloc_past can?_alloc_at can?_setCell can?_setA cell_setA frozen_setA size_setA agg_aL agg_cL size_aL size_cL length_aL length_cL

/-- A slice of n bytes that came in. -/
structure Bytes (w : World) (ad : Option Addr) (n : Nat) (B : Nat → Int) : Prop where
  at' : 0 < n → ∃ b o, ad = some ⟨b, o, none⟩ ∧ b < w.heap.size ∧ ∀ i, i < n → w.cell? ⟨b, o + i, none⟩ = some (.int .u8 (B i))
  byte : ∀ i, i < n → 0 ≤ B i ∧ B i ≤ 255

theorem Bytes.below {w w' : World} {ad : Option Addr} {n : Nat} {B : Nat → Int} (h : Bytes w ad n B) {k : Nat} (hb : Below k w w') (hk : w.heap.size ≤ k) : Bytes w' ad n B :=
  ⟨fun hn => by
    obtain ⟨b, o, h1, h2, h3⟩ := h.at' hn
    exact ⟨b, o, h1, Nat.lt_of_lt_of_le h2 hb.size, fun i hi => (hb.cell (p := ⟨b, o + i, none⟩) (by show b < k; omega)).trans (h3 i hi)⟩, h.byte⟩

/-! ### make([]Contact, 0, c) -/
def mkC (l c : Value) : Sem Value := Instr.makeSlice 59 l c
theorem mkC_eq (l c : Value) : Instr.makeSlice 59 l c = mkC l c := rfl
def madeC (c : Nat) : Array Value := madeCells (cV zeroF).cells (c * 24)
theorem size_madeC (c : Nat) : (madeC c).size = c * 24 := size_madeCells _ _
theorem make_contacts (w : World) (c : Nat) (hc : c ≤ 100000) : (mkC (.int .i64 0) (.int .i64 (c : Int))).run Yba.prog w = .ok (.slice (some ⟨w.heap.size, 0, none⟩) 0 c) (w.alloc (.cells (madeC c) 73)) := by
  obtain ⟨i0, hi0, hz0, hzs, hzb⟩ := info_parts i73w
  have h := run_make (P := Yba.prog) w 59 73 i0 (cV zeroF) t59 hi0 hz0 .i64 .i64 0 (c : Int) (Int.le_refl _) (by omega) (by rw [hzb]; omega) (by omega)
  rw [hzs] at h
  exact h
theorem row_made (w : World) (c : Nat) (hc : c ≤ 100000) (V : Nat → List Value) : RowW (w.alloc (.cells (madeC c) 73)) 24 w.heap.size 0 c V :=
  ⟨Nat.zero_le _, by omega, fun j hj => absurd hj (by omega), fun j hj => absurd hj (by omega),
   fun o ho => by rw [World.cell?_alloc_at _ _ _ _ rfl, Array.getElem?_eq_getElem (by rw [size_madeC]; omega)]; rfl,
   fun o ho => World.frozen?_alloc_at _ _ _ _ rfl⟩

theorem cid_hid (b : Int) (w : World) : Calls Yba.prog 19 #[.int .u8 b] w fun e w' => e = .returned (aV (idF b)) ∧ Hid (Below w.heap.size w w') := cid_any b w

/-- One more contact behind those of a row: the world a caller is in when it comes to append. -/
theorem push_contact (w w1 : World) (zb n cap : Nat) (ad : Option Addr) (Z : Nat → Int) (x : Int) (hR : RowW w 24 zb n cap (conts Z)) (had : ad = if cap = 0 then none else some ⟨zb, 0, none⟩) (hb : Below w.heap.size w w1) (hn : n < 1000) :
    ∃ w' zb' cap', (Builtin.append_ #[59, 59] 59 #[.slice ad n cap, .slice (some ⟨w1.heap.size, 0, none⟩) 1 1]).run Yba.prog (w1.alloc (.cells (cL (idF x)).toArray 73)) = .ok (.slice (some ⟨zb', 0, none⟩) (n + 1) cap') w' ∧
      RowW w' 24 zb' (n + 1) cap' (conts fun j => if j = n then x else Z j) ∧ (zb' = zb ∧ 0 < cap ∨ w.heap.size ≤ zb') ∧ zb' < w'.heap.size ∧ Chg (fun k => k = zb ∧ 0 < cap) w w' := by
  have hC1 : Chg (fun k => k = zb ∧ 0 < cap) w (w1.alloc (.cells (cL (idF x)).toArray 73)) := (Chg.ofNew hb).alloc _
  have hra : RowW (w1.alloc (.cells (cL (idF x)).toArray 73)) 24 zb n cap (conts Z) := hR.keep (fun h => by
    have h1 := hR.lt (by omega) h
    have h2 := hb.size
    exact (((Below.refl w1.heap.size w1).alloc (Nat.le_refl _) _).block _ (by omega)).trans (hb.block _ h1))
  obtain ⟨w', b', cap', hrun, hrow, hcase, hlt, hchg⟩ := append_rowW (w1.alloc (.cells (cL (idF x)).toArray 73)) 59 73 59 (cV zeroF) 24 56 t59 i73w c73 (by omega) zb n cap w1.heap.size 1 (conts Z) (cL (idF x)) hra (length_cL _) (one_cL _) (fun j v hj => by rw [World.cell?_alloc_at _ _ _ _ rfl]; simpa using hj) (by omega) (by omega)
  have hsl : slV zb n cap = .slice ad n cap := by unfold slV; rw [← had]
  rw [hsl] at hrun
  refine ⟨w', b', cap', hrun, hrow.congr (fun j hj => ?_), ?_, hlt, hC1.trans hchg (fun _ _ h => h)⟩
  · show (if j = n then cL (idF x) else cL (idF (Z j))) = cL (idF (if j = n then x else Z j))
    split <;> rfl
  · rcases hcase with h | h
    · exact .inl h
    · right
      have h3 : (w1.alloc (.cells (cL (idF x)).toArray 73)).heap.size = w1.heap.size + 1 := by simp
      have := hb.size
      omega

attribute [local go_sem ↓] mkC_eq
set_option maxRecDepth 100000 in
theorem contacts_any (w : World) (ad : Option Addr) (n cap : Nat) (B : Nat → Int) (hB : Bytes w ad n B) (hn : n ≤ 512) :
    Calls Yba.prog 20 #[.slice ad n cap] w fun r w' => ∃ zb zad zcap, r = .returned (.slice zad n zcap) ∧ (0 < zcap → zad = some ⟨zb, 0, none⟩) ∧ RowW w' 24 zb n zcap (conts B) ∧ (0 < zcap → w.heap.size ≤ zb) ∧ Below w.heap.size w w' := by
  have hmk : ∀ w0 : World, (mkC (.int .i64 0) (.int .i64 (n : Int))).run Yba.prog w0 = .ok (.slice (some ⟨w0.heap.size, 0, none⟩) 0 n) (w0.alloc (.cells (madeC n) 73)) := fun w0 => make_contacts w0 n (by omega)
  have HB : Hid (Bytes w ad n B) := hB
  obtain ⟨W, hW⟩ : ∃ W, W = w.alloc (.cells (madeC n) 73) := ⟨_, rfl⟩
  have HRM : Hid (RowW W 24 w.heap.size 0 n (conts B)) := by rw [hW]; exact row_made w n (by omega) _
  have HW : Hid (Below w.heap.size w W) := by rw [hW]; exact (Below.refl _ w).alloc (Nat.le_refl _) _
  clear hB
  go_enter Yba.func20, Yba.ntmps20
  go_wp2
  rw [← hW]
  clear hW hmk
  go_loopw [3, 4] (fun z ix wr => ∃ (i zb zcap : Nat) (zad : Option Addr), ix = .int .i64 (i : Int) ∧ z = .slice zad i zcap ∧ i ≤ n ∧ (0 < n → 0 < zcap) ∧ (0 < zcap → zad = some ⟨zb, 0, none⟩) ∧ RowW wr 24 zb i zcap (conts B) ∧ (0 < zcap → w.heap.size ≤ zb) ∧ Below w.heap.size w wr) (fun _ ix _ => n - (RowKit.intOf ix).toNat)
  case atStart => exact ⟨0, w.heap.size, n, _, rfl, rfl, by omega, fun h => h, fun _ => rfl, HRM.out, fun _ => Nat.le_refl _, HW.out⟩
  case round =>
    obtain ⟨i, zb, zcap, zad, rfl, rfl, hin, hnz, hzad, hrow, hnew, hb⟩ := hrel
    have HX : Hid ((0 < zcap → zad = some ⟨zb, 0, none⟩) ∧ RowW wr 24 zb i zcap (conts B) ∧ (0 < zcap → w.heap.size ≤ zb) ∧ Below w.heap.size w wr) := ⟨hzad, hrow, hnew, hb⟩
    have HZ : Hid (0 < n → 0 < zcap) := hnz
    clear hzad hrow hnew hb hnz
    by_cases hlt : i < n
    · obtain ⟨b, o, rfl, hbw, hcell⟩ := HB.out.at' (by omega)
      have hc : wr.cell? ⟨b, o + i, none⟩ = some (.int .u8 (B i)) := (HX.out.2.2.2.cell (p := ⟨b, o + i, none⟩) hbw).trans (hcell i hlt)
      have hi1 : (0 : Int) ≤ (i : Int) := by omega
      have hi2 : (i : Int) < (n : Int) := by omega
      have HAPP : Hid (∀ w1, Below wr.heap.size wr w1 → ∃ w' zb' cap', (Builtin.append_ #[59, 59] 59 #[.slice zad i zcap, .slice (some ⟨w1.heap.size, 0, none⟩) 1 1]).run Yba.prog (w1.alloc (.cells (cL (idF (B i))).toArray 73)) = .ok (.slice (some ⟨zb', 0, none⟩) (i + 1) cap') w' ∧
          Hid (0 < cap' ∧ RowW w' 24 zb' (i + 1) cap' (conts B) ∧ (0 < cap' → w.heap.size ≤ zb') ∧ Below w.heap.size w w')) := fun w1 h1 => by
        have hz0 : 0 < zcap := HZ.out (by omega)
        obtain ⟨w', zb', cap', e1, e2, e3, e4, e5⟩ := push_contact wr w1 zb i zcap zad B (B i) HX.out.2.1 (by rw [if_neg (by omega)]; exact HX.out.1 hz0) h1 (by omega)
        refine ⟨w', zb', cap', e1, by have := e2.le; omega, e2.congr (fun j hj => ?_), fun _ => ?_, ?_⟩
        · show cL (idF (if j = i then B i else B j)) = cL (idF (B j))
          split
          · rename_i h; rw [h]
          · rfl
        · have h2 := HX.out.2.2.1 hz0
          have h3 := HX.out.2.2.2.size
          omega
        · exact HX.out.2.2.2.trans (e5.below HX.out.2.2.2.size (fun k hk ⟨h1, h2⟩ => by have := HX.out.2.2.1 hz0; omega))
      clear hcell
      go_wp2_with (first | (go_at_call 19; refine (cid_hid _ _).mono ?_; rintro _ w1 ⟨rfl, HB1⟩; obtain ⟨w9, zb', cap', hrun, HK⟩ := HAPP.out w1 HB1.out) | (at_builtin; refine Lib.wpList_append_run _ rfl _ _ _ _ rfl _ _ rfl rfl _ _ hrun ?_))
      obtain ⟨k1, k2, k3, k4⟩ := HK.out
      exact ⟨⟨i + 1, zb', cap', _, by simp, rfl, by omega, fun _ => k1, fun _ => rfl, k2, k3, k4⟩, by simp only [RowKit.intOf]; omega⟩
    · obtain rfl : i = n := by omega
      go_wp2
      go_ret
      exact ⟨zb, zad, zcap, rfl, HX.out.1, HX.out.2.1, HX.out.2.2.1, HX.out.2.2.2⟩

/-- A row of ids. -/
def idsOf (l : List Int) : Nat → List Value := fun j => aL (idF (l.getD j 0))

theorem in_any (w : World) (ad : Option Addr) (b cap : Nat) (l : List Int) (x : Int) (hR : RowW w 20 b l.length cap (idsOf l)) (had : 0 < cap → ad = some ⟨b, 0, none⟩) (hl : l.length ≤ 1000) :
    Calls Yba.prog 21 #[.slice ad l.length cap, aV (idF x)] w fun r w' => r = .returned (.bool (l.contains x)) ∧ Below w.heap.size w w' := by
  obtain ⟨W, hW⟩ : ∃ W, W = w.alloc (.cells (aL (idF x)).toArray 62) := ⟨_, rfl⟩
  have hBW : Below w.heap.size w W := by rw [hW]; exact (Below.refl _ w).alloc (Nat.le_refl _) _
  have HW : Hid (Below w.heap.size w W) := hBW
  have hx : arr? W 20 w.heap.size 0 = some (aL (idF x)) := by rw [hW, arr?_alloc_at _ _ _ _ _ rfl (length_aL _)]
  have HR : Hid (RowW W 20 b l.length cap (idsOf l)) := hR.keep (fun h => hBW.block _ (hR.lt (by omega) h))
  have HA : Hid (0 < cap → ad = some ⟨b, 0, none⟩) := had
  obtain ⟨n, hn⟩ : ∃ n, n = l.length := ⟨_, rfl⟩
  have HN : Hid (n = l.length) := hn
  rw [← hn] at HR hl ⊢
  clear hR had hBW hn
  go_enter Yba.func21, Yba.ntmps21
  go_wp2
  rw [← hW]
  clear hW
  go_loopw [5] (fun ix wr => ∃ (i : Nat) (m : Nat), ix = .int .i64 (i : Int) ∧ i ≤ n ∧ (∀ j, j < i → l.getD j 0 ≠ x) ∧ wr = W.drewN m) (fun ix _ => (n - (RowKit.intOf ix).toNat))
  case atStart => exact ⟨0, 0, rfl, by omega, fun j hj => absurd hj (by omega), rfl⟩
  case round =>
    obtain ⟨i, m, rfl, hin, hno, rfl⟩ := hrel
    have HNo : Hid (∀ j, j < i → l.getD j 0 ≠ x) := hno
    clear hno
    have HFin : Hid (Below w.heap.size w (W.drewN m)) := Below.drewN HW.out m
    by_cases hlt : i < n
    · obtain rfl : ad = some ⟨b, 0, none⟩ := HA.out (by have := HR.out.le; omega)
      have hy : arr? W 20 b (i * 20) = some (aL (idF (l.getD i 0))) := HR.out.arr hlt
      have hi1 : (0 : Int) ≤ (i : Int) := by omega
      have hi2 : (i : Int) < (n : Int) := by omega
      obtain ⟨y, hyy⟩ : ∃ y, y = l.getD i 0 := ⟨_, rfl⟩
      rw [← hyy] at hy
      have HY : Hid (y = l.getD i 0) := hyy
      clear hyy
      by_cases hyx : y = x
      · subst hyx
        have heq : eqF (idF y) (idF y) = true := by rw [eqF_id]; simp
        go_wp2
        go_quiet (fail)
        go_wp2
        go_ret
        have hc : l.contains y = true := by
          have h1 := HN.out
          simp only [List.contains_iff_mem]
          rw [HY.out, List.getD_eq_getElem?_getD, List.getElem?_eq_getElem (by omega)]
          exact List.getElem_mem _
        rw [hc]
        exact ⟨rfl, Below.drewN HFin.out _⟩
      · have heq : eqF (idF y) (idF x) = false := by rw [eqF_id]; simpa using hyx
        go_wp2
        go_quiet (fail)
        go_wp2
        refine ⟨⟨i + 1, _, by simp, by omega, fun j hj => ?_, rfl⟩, by simp only [RowKit.intOf]; omega⟩
        by_cases hji : j = i
        · rw [hji, ← HY.out]; exact hyx
        · exact HNo.out j (by omega)
    · obtain rfl : i = n := by omega
      go_wp2
      go_ret
      have hc : l.contains x = false := by
        have h1 := HN.out
        rw [Bool.eq_false_iff]
        intro h
        obtain ⟨j, hj, h2⟩ := List.getElem_of_mem (List.contains_iff_mem.1 h)
        refine HNo.out j (by omega) ?_
        rw [List.getD_eq_getElem?_getD, List.getElem?_eq_getElem hj]
        exact h2
      rw [hc]
      exact ⟨rfl, HFin.out⟩
end Go.Proofs.Ybulkchfs
