/- CONTRACTS OF zzs4165csorted (25), NearestReplied (26), Queries (27). -/
import Derived.Test.YbulkchfsFields
namespace Go.Proofs.Ybulkchfs
open Go.RowKit Go.Lib
set_option linter.unusedVariables false
set_option linter.unusedSimpArgs false
attribute [local go_sem ↓] ldI_eq ldC_eq stI_eq stC_eq bxI_eq bxC_eq nwI_eq nwC_eq bdC_eq
attribute [local go_sem] load_id load_contact store_id store_contact box_id box_contact new_id new_contact build_contact build_zero
attribute [local go_sem] arr?_drew arr?_drewN arr?_alloc_past arr?_alloc_at arr?_setCell arr?_setA arr?_setA_same can?_drew can?_drewN can?_alloc_past can?_alloc_at can?_setCell can?_setA cell_setA frozen_setA size_setA agg_aL agg_cL size_aL size_cL length_aL length_cL
attribute [local go_sem] cell_up arr?_up frozen_up

/-- How many of the first m entries of the shortlist have been queried. -/
def cntQ (L : St) : Nat → Nat
  | 0 => 0
  | i + 1 => cntQ L i + if L.S (L.E i) = 0 then 0 else 1
theorem cntQ_le (L : St) : ∀ m, cntQ L m ≤ m
  | 0 => Nat.le_refl _
  | i + 1 => by have := cntQ_le L i; unfold cntQ; split <;> omega

theorem queries_any (w : World) (bl : Nat) (L : St) (H : Rep w bl L) :
    Calls Yba.prog 27 #[pb bl] w fun r w' => r = .returned (.int .i64 (cntQ L L.n : Int)) ∧ Below w.heap.size w w' := by
  obtain ⟨ad0, had0⟩ : ∃ ad0 : Option Addr, ad0 = if L.cap = 0 then none else some ⟨L.bs, 0, none⟩ := ⟨_, rfl⟩
  have c46 : w.cell? ⟨bl, 46, none⟩ = some (.slice ad0 L.n L.cap) := by have := H.fields.shortlist; unfold slV at this; rw [← had0] at this; exact this
  have HN : Hid (0 < L.n → ad0 = some ⟨L.bs, 0, none⟩ ∧ L.bs < w.heap.size) := fun h => by
    have h1 := H.row.le
    rw [had0, if_neg (by omega)]
    exact ⟨rfl, H.row.lt (by omega)⟩
  have HH : Hid (Rep w bl L) := H
  have hsm := H.small
  clear H had0
  go_enter Yba.func27, Yba.ntmps27
  go_wp2
  go_loopw [3, 5, 11] (fun q _ ix wr => ∃ (i : Nat), ix = .int .i64 (i : Int) ∧ q = .int .i64 (cntQ L i : Int) ∧ i ≤ L.n ∧ Below w.heap.size w wr) (fun _ _ ix _ => (L.n - (RowKit.intOf ix).toNat))
  case atStart => exact ⟨0, rfl, rfl, by omega, Below.refl _ _⟩
  case round =>
    obtain ⟨i, rfl, rfl, hin, hb⟩ := hrel
    have HB : Hid (Below w.heap.size w wr) := hb
    clear hb
    have hcq := cntQ_le L i
    obtain ⟨cq, hq⟩ : ∃ cq, cq = cntQ L i := ⟨_, rfl⟩
    rw [← hq] at hcq ⊢
    have HQ : Hid (cq = cntQ L i) := hq
    clear hq
    by_cases hlt : i < L.n
    · obtain ⟨rfl, sbs⟩ := HN.out (by omega)
      obtain ⟨e, he⟩ : ∃ e, e = L.E i := ⟨_, rfl⟩
      have hent := HH.out.ent i hlt
      have gp : wr.cell? ⟨L.bs, i, none⟩ = some (pb e) := by rw [he]; exact (HB.out.cell (p := ⟨L.bs, i, none⟩) sbs).trans (HH.out.row.ptr i hlt)
      obtain ⟨s, hs⟩ : ∃ s, s = L.S (L.E i) := ⟨_, rfl⟩
      have gs : wr.cell? ⟨e, 24, none⟩ = some (.int .i64 s) := by rw [he, hs]; exact (HB.out.cell (p := ⟨L.E i, 24, none⟩) hent.lt).trans hent.state
      have hi1 : (0 : Int) ≤ (i : Int) := by omega
      have hi2 : (i : Int) < (L.n : Int) := by omega
      have HS : Hid (s = L.S (L.E i)) := hs
      clear hent hs he
      by_cases hs0 : s = 0
      · have hb0 : (s == 0) = true := by simpa using hs0
        go_wp2
        refine ⟨⟨i + 1, by simp, ?_, by omega, HB.out⟩, by simp only [RowKit.intOf]; omega⟩
        show _ = Value.int .i64 ((cntQ L i + if L.S (L.E i) = 0 then 0 else 1 : Nat) : Int)
        rw [← HS.out, if_pos hs0, HQ.out]; rfl
      · have hb0 : (s == 0) = false := by simpa using hs0
        go_wp2
        refine ⟨⟨i + 1, by simp, ?_, by omega, HB.out⟩, by simp only [RowKit.intOf]; omega⟩
        show _ = Value.int .i64 ((cntQ L i + if L.S (L.E i) = 0 then 0 else 1 : Nat) : Int)
        rw [← HS.out, if_neg hs0, HQ.out]; simp
    · obtain rfl : i = L.n := by omega
      go_wp2
      go_ret
      have hq := HQ.out
      subst hq
      exact ⟨rfl, HB.out⟩

/-- Two results, the first a contact in a variable of its own. -/
theorem result_contact {fn : Func} {p q : Tmp} (h : fn.results = #[.cell p 73, .tmp q]) (tmps : Array Value) (w : World) (b o : Nat) (F : Nat → Int) (v : Value) (hp : tmps.getD p undef = .pointer (some ⟨b, o, none⟩)) (hq : tmps.getD q undef = v) (ha : arr? w 24 b o = some (cL F)) :
    (results fn tmps).run Yba.prog w = .ok (.tuple #[cV F, v]) w := by
  obtain ⟨hl, hr⟩ := of_arr? ha
  have hld := run_loadVar_mid (P := Yba.prog) w b o 73 (cL F) _ hr Yba.underlying73 rfl (by rw [hl]; exact info73)
  simp only [results, h]
  have hp' : tmps[p]?.getD undef = .pointer (some ⟨b, o, none⟩) := by simpa [Array.getD_eq_getD_getElem?] using hp
  have hq' : tmps[q]?.getD undef = v := by simpa [Array.getD_eq_getD_getElem?] using hq
  simp [hp', hq', asAddr, hld, cV]

def NearPost (w : World) (L : St) (r : Ending) (w' : World) : Prop :=
  ∃ (F : Nat → Int) (ok : Bool), r = .returned (.tuple #[cV F, .bool ok]) ∧ (ok = true ↔ ∃ i, i < L.n ∧ L.S (L.E i) = 3) ∧ Below w.heap.size w w'

theorem nearest_any (w : World) (bl : Nat) (L : St) (H : Rep w bl L) :
    Calls Yba.prog 26 #[pb bl] w (NearPost w L) := by
  obtain ⟨W, hW⟩ : ∃ W, W = w.alloc (.cells (cL zeroF).toArray 73) := ⟨_, rfl⟩
  have hBW : Below w.heap.size w W := by rw [hW]; exact (Below.refl _ w).alloc (Nat.le_refl _) _
  have HW : Hid (Below w.heap.size w W) := hBW
  have HR : Hid (Rep W bl L) := H.below hBW
  have hcan : can? W 24 w.heap.size 0 = true := by rw [hW]; exact can?_alloc_at _ _ _ _ _ _ rfl (by simp [length_cL])
  have hsz : w.heap.size < W.heap.size := by rw [hW]; simp
  obtain ⟨ad0, had0⟩ : ∃ ad0 : Option Addr, ad0 = if L.cap = 0 then none else some ⟨L.bs, 0, none⟩ := ⟨_, rfl⟩
  have c46 : W.cell? ⟨bl, 46, none⟩ = some (.slice ad0 L.n L.cap) := by have := HR.out.fields.shortlist; unfold slV at this; rw [← had0] at this; exact this
  have HN : Hid (0 < L.n → ad0 = some ⟨L.bs, 0, none⟩ ∧ L.bs < w.heap.size) := fun h => by
    have h1 := H.row.le
    rw [had0, if_neg (by omega)]
    exact ⟨rfl, H.row.lt (by omega)⟩
  have HH : Hid (Rep w bl L) := H
  have hsm := H.small
  have hbl := H.fields.lt
  have k46 : w.cell? ⟨bl, 46, none⟩ = some (.slice ad0 L.n L.cap) := by have := H.fields.shortlist; unfold slV at this; rw [← had0] at this; exact this
  clear H had0 hBW
  go_enter Yba.func26, Yba.ntmps26
  go_wp2
  rw [← hW]
  clear hW
  go_loopw [5, 11] (fun _ ix wr => ∃ (i : Nat), ix = .int .i64 (i : Int) ∧ i ≤ L.n ∧ (∀ j, j < i → L.S (L.E j) ≠ 3) ∧ wr = W) (fun _ ix _ => (L.n - (RowKit.intOf ix).toNat))
  case atStart => exact ⟨0, rfl, by omega, fun j hj => absurd hj (by omega), rfl⟩
  case round =>
    obtain ⟨i, rfl, hin, hno, rfl⟩ := hrel
    have HNo : Hid (∀ j, j < i → L.S (L.E j) ≠ 3) := hno
    clear hno
    by_cases hlt : i < L.n
    · obtain ⟨rfl, sbs⟩ := HN.out (by omega)
      obtain ⟨e, he⟩ : ∃ e, e = L.E i := ⟨_, rfl⟩
      have hent := HR.out.ent i hlt
      have gp : wr.cell? ⟨L.bs, i, none⟩ = some (pb e) := by rw [he]; exact HR.out.row.ptr i hlt
      obtain ⟨s, hs⟩ : ∃ s, s = L.S (L.E i) := ⟨_, rfl⟩
      have gs : wr.cell? ⟨e, 24, none⟩ = some (.int .i64 s) := by rw [he, hs]; exact hent.state
      have gc : arr? wr 24 e 0 = some (cL (idF (L.X e))) := by rw [he]; exact hent.contact
      have hi1 : (0 : Int) ≤ (i : Int) := by omega
      have hi2 : (i : Int) < (L.n : Int) := by omega
      have HS : Hid (s = L.S (L.E i)) := hs
      clear hent hs he
      by_cases hs3 : s = 3
      · have hb3 : (s == 3) = true := by simpa using hs3
        go_wp2
        refine bodyPost_ret (result_contact Yba.results26 _ _ w.heap.size 0 (idF (L.X e)) _ rfl rfl ?_) rfl ⟨_, _, rfl, ?_, ?_⟩
        · exact arr?_setA_same _ _ _ _ _ (length_cL _) hcan
        · exact ⟨fun _ => ⟨i, hlt, by rw [← HS.out]; exact hs3⟩, fun _ => rfl⟩
        · exact below_setA HW.out _ _ _ (Nat.le_refl _)
      · have hb3 : (s == 3) = false := by simpa using hs3
        go_wp2
        refine ⟨⟨i + 1, by simp, by omega, fun j hj => ?_, trivial⟩, by simp only [RowKit.intOf]; omega⟩
        by_cases hji : j = i
        · rw [hji, ← HS.out]; exact hs3
        · exact HNo.out j (by omega)
    · obtain rfl : i = L.n := by omega
      go_wp2
      refine bodyPost_ret (result_contact Yba.results26 _ _ w.heap.size 0 zeroF _ rfl rfl ?_) rfl ⟨_, _, rfl, ?_, ?_⟩
      · exact arr?_setA_same _ _ _ _ _ (length_cL _) hcan
      · exact ⟨fun h => (by cases h), fun ⟨j, hj, h⟩ => absurd h (HNo.out j hj)⟩
      · exact below_setA HW.out _ _ _ (Nat.le_refl _)

theorem sorted_any (w : World) (bl : Nat) (L : St) (H : Rep w bl L) :
    Calls Yba.prog 25 #[pb bl] w fun r w' => r = .returned (.bool true) ∧ Below w.heap.size w w' := by
  obtain ⟨ad0, had0⟩ : ∃ ad0 : Option Addr, ad0 = if L.cap = 0 then none else some ⟨L.bs, 0, none⟩ := ⟨_, rfl⟩
  have c46 : w.cell? ⟨bl, 46, none⟩ = some (.slice ad0 L.n L.cap) := by have := H.fields.shortlist; unfold slV at this; rw [← had0] at this; exact this
  have HN : Hid (0 < L.n → ad0 = some ⟨L.bs, 0, none⟩ ∧ L.bs < w.heap.size) := fun h => by
    have h1 := H.row.le
    rw [had0, if_neg (by omega)]
    exact ⟨rfl, H.row.lt (by omega)⟩
  have HH : Hid (Rep w bl L) := H
  have hbl := H.fields.lt
  have hsm := H.small
  have ct := H.fields.target
  clear H had0
  go_enter Yba.func25, Yba.ntmps25
  go_wp2
  go_loopw [3] (fun ix wr => ∃ (i : Nat), ix = .int .i64 (i : Int) ∧ 1 ≤ i ∧ (i ≤ L.n ∨ i = 1) ∧ Below w.heap.size w wr) (fun ix _ => (L.n - (RowKit.intOf ix).toNat))
  case atStart => exact ⟨1, rfl, by omega, .inr rfl, Below.refl _ _⟩
  case round =>
    obtain ⟨i, rfl, h1i, hin, hb⟩ := hrel
    have HB : Hid (Below w.heap.size w wr) := hb
    clear hb
    have d46 : wr.cell? ⟨bl, 46, none⟩ = some (.slice ad0 L.n L.cap) := (HB.out.cell (p := ⟨bl, 46, none⟩) hbl).trans c46
    have rbl : bl < wr.heap.size := Nat.lt_of_lt_of_le hbl HB.out.size
    by_cases hlt : i < L.n
    · obtain ⟨rfl, sbs⟩ := HN.out (by omega)
      obtain ⟨e, he⟩ : ∃ e, e = L.E i := ⟨_, rfl⟩
      obtain ⟨i0, hi0⟩ : ∃ i0, i = i0 + 1 := ⟨i - 1, by omega⟩
      obtain ⟨e0, he0⟩ : ∃ e0, e0 = L.E i0 := ⟨_, rfl⟩
      have gp : wr.cell? ⟨L.bs, i, none⟩ = some (pb e) := by rw [he]; exact (HB.out.cell (p := ⟨L.bs, i, none⟩) sbs).trans (HH.out.row.ptr i hlt)
      have gp0 : wr.cell? ⟨L.bs, i0, none⟩ = some (pb e0) := by rw [he0]; exact (HB.out.cell (p := ⟨L.bs, i0, none⟩) sbs).trans (HH.out.row.ptr i0 (by omega))
      have hRr : Rep wr bl L := HH.out.below HB.out
      have gc : arr? wr 20 e 0 = some (aL (idF (L.X e))) := by rw [he]; exact (hRr.ent i hlt).id
      have gc0 : arr? wr 20 e0 0 = some (aL (idF (L.X e0))) := by rw [he0]; exact (hRr.ent i0 (by omega)).id
      have gt : arr? wr 20 bl 20 = some (aL (idF L.t)) := hRr.fields.target
      have re : e < wr.heap.size := by rw [he]; exact (hRr.ent i hlt).lt
      have re0 : e0 < wr.heap.size := by rw [he0]; exact (hRr.ent i0 (by omega)).lt
      have rbs : L.bs < wr.heap.size := Nat.lt_of_lt_of_le sbs HB.out.size
      have hcmp : cmpF (xorF (idF (L.X e0)) (idF L.t)) (xorF (idF (L.X e)) (idF L.t)) = -1 := by
        rw [xorF_id, xorF_id, cmpF_id, he, he0, if_pos (HH.out.rise i0 i (by omega) hlt)]
      have hi1 : (0 : Int) ≤ (i : Int) := by omega
      have hi2 : (i : Int) < (L.n : Int) := by omega
      have hj0 : (i : Int) - 1 = (i0 : Int) := by omega
      have hj1 : (0 : Int) ≤ (i0 : Int) := by omega
      have hj2 : (i0 : Int) < (L.n : Int) := by omega
      have hw0 : IntKind.i64.wrap ((i : Int) - 1) = (i0 : Int) := by rw [IntKind.wrap_i64]; omega
      clear hRr he he0 hi0 ct c46
      go_wp2
      refine wp_region_up (by kernel_rfl) (by kernel_rfl) ?_
      repeat (go_big_quiet_step ((first | (go_at_call 22; exact up_call (cdist_any _ _ _)) | (go_at_call 23; exact up_call (ccmp_any _ _ _)))))
      refine wpQuiet_nil ?_
      intro _ hw
      obtain ⟨g, rfl⟩ := hw
      have HB2 : Hid (Below w.heap.size w (up wr g)) := HB.out.trans ((up_below wr g).mono HB.out.size)
      go_wp2
      exact ⟨⟨i + 1, by simp, by omega, by omega, HB2.out⟩, by simp only [RowKit.intOf]; omega⟩
    · have hni : ¬ ((i : Int) < (L.n : Int)) := by omega
      go_wp2
      go_ret
      exact ⟨rfl, HB.out⟩
end Go.Proofs.Ybulkchfs
