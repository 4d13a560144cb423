/- CONTRACT OF closest (45): the first min(k, n) entries of the shortlist, none having failed or been set aside. -/
import Derived.Test.YbulkchfsWide
namespace Go.Proofs.Ybulkchfs
open Go.RowKit Go.Lib
set_option linter.unusedVariables false
set_option linter.unusedSimpArgs false

theorem c74 : (Value.pointer none).cells.size = 1 := rfl
def ptrs (E : Nat → Nat) : Nat → List Value := fun j => [pb (E j)]

set_option maxRecDepth 100000 in
theorem closest_any (w : World) (bl : Nat) (L : St) (kn : Nat) (H : Rep w bl L) (hk : L.k = (kn : Int)) (hst : ∀ i, i < L.n → L.S (L.E i) ≠ 5 ∧ L.S (L.E i) ≠ 2) :
    Calls Yba.prog 45 #[pb bl] w fun r w' => ∃ be cap, r = .returned (slV be (min kn L.n) cap) ∧ RowW w' 1 be (min kn L.n) cap (ptrs L.E) ∧ (0 < cap → w.heap.size ≤ be) ∧ Below w.heap.size w w' := by
  have c40 : w.cell? ⟨bl, 40, none⟩ = some (.int .i64 (kn : Int)) := by rw [← hk]; exact H.fields.k
  obtain ⟨ad0, had0⟩ : ∃ ad0 : Option Addr, ad0 = if L.cap = 0 then none else some ⟨L.bs, 0, none⟩ := ⟨_, rfl⟩
  have c46 : w.cell? ⟨bl, 46, none⟩ = some (.slice ad0 L.n L.cap) := by have := H.fields.shortlist; unfold slV at this; rw [← had0] at this; exact this
  have HN : Hid (0 < L.n → ad0 = some ⟨L.bs, 0, none⟩ ∧ L.bs < w.heap.size) := fun h => by
    have h1 := H.row.le
    rw [had0, if_neg (by omega)]
    exact ⟨rfl, H.row.lt (by omega)⟩
  have HH : Hid (Rep w bl L) := H
  have HS : Hid (∀ i, i < L.n → L.S (L.E i) ≠ 5 ∧ L.S (L.E i) ≠ 2) := hst
  have hsm := H.small
  have hbl := H.fields.lt
  clear hst H had0 hk
  go_enter Yba.func45, Yba.ntmps45
  go_wp2
  go_loopw [3, 5, 11] (fun es _ ix wr => ∃ (i be cap : Nat) (ad : Option Addr), ix = .int .i64 (i : Int) ∧ es = .slice ad i cap ∧ i ≤ L.n ∧ i ≤ kn ∧ ad = (if cap = 0 then none else some ⟨be, 0, none⟩) ∧ RowW wr 1 be i cap (ptrs L.E) ∧ (0 < cap → w.heap.size ≤ be) ∧ Below w.heap.size w wr) (fun _ _ ix _ => (L.n - (RowKit.intOf ix).toNat))
  case atStart => exact ⟨0, 0, 0, none, rfl, rfl, by omega, by omega, rfl, RowW.nil _ _ _ _, fun h => absurd h (by omega), Below.refl _ _⟩
  case round =>
    obtain ⟨i, be, cap, ad, rfl, rfl, hin, hik, had, hrow, hnew, hb⟩ := hrel
    have HRow : Hid (RowW wr 1 be i cap (ptrs L.E)) := hrow
    have HNew : Hid (0 < cap → w.heap.size ≤ be) := hnew
    have HB : Hid (Below w.heap.size w wr) := hb
    have HAd : Hid (ad = (if cap = 0 then none else some ⟨be, 0, none⟩)) := had
    clear hrow hnew hb had
    by_cases hlt : i < L.n
    · obtain ⟨rfl, sbs⟩ := HN.out (by omega)
      obtain ⟨e, he⟩ : ∃ e, e = L.E i := ⟨_, rfl⟩
      have hent := HH.out.ent i hlt
      have g40 : wr.cell? ⟨bl, 40, none⟩ = some (.int .i64 (kn : Int)) := (HB.out.cell (p := ⟨bl, 40, none⟩) hbl).trans c40
      have gp : wr.cell? ⟨L.bs, i, none⟩ = some (pb e) := by rw [he]; exact (HB.out.cell (p := ⟨L.bs, i, none⟩) sbs).trans (HH.out.row.ptr i hlt)
      obtain ⟨s, hs⟩ : ∃ s, s = L.S (L.E i) := ⟨_, rfl⟩
      have gs : wr.cell? ⟨e, 24, none⟩ = some (.int .i64 s) := by rw [he, hs]; exact (HB.out.cell (p := ⟨L.E i, 24, none⟩) hent.lt).trans hent.state
      have hs5 : ¬ s = 5 := by rw [hs]; exact (HS.out i hlt).1
      have hs2 : ¬ s = 2 := by rw [hs]; exact (HS.out i hlt).2
      have hs5' : (s == 5) = false := by simpa using hs5
      have hs2' : (s == 2) = false := by simpa using hs2
      have hi1 : (0 : Int) ≤ (i : Int) := by omega
      have hi2 : (i : Int) < (L.n : Int) := by omega
      have HE : Hid (e = L.E i) := he
      clear hent hs he
      by_cases hik' : i = kn
      · subst hik'
        go_wp2
        go_ret
        have hmin : min i L.n = i := by omega
        refine ⟨be, cap, ?_, ?_, HNew.out, HB.out⟩
        · (try rw [hmin]); unfold slV; rw [← HAd.out]; rfl
        · (try rw [hmin]); exact HRow.out
      · have hnk : ¬ ((i : Int) = (kn : Int)) := by omega
        have hsl : slV be i cap = .slice ad i cap := by unfold slV; rw [← HAd.out]
        have hbe : 0 < cap → be < wr.heap.size := fun h => HRow.out.lt (by omega) h
        have hrowa : RowW (wr.alloc (.cells #[pb e] 74)) 1 be i cap (ptrs L.E) := HRow.out.keep (fun h => ((Below.refl wr.heap.size wr).alloc (Nat.le_refl _) _).block _ (hbe h))
        obtain ⟨w', be', cap', hrun, hrow', hcase, hlt', hchg⟩ := append_rowW (wr.alloc (.cells #[pb e] 74)) 77 74 77 (.pointer none) 1 8 t77 i74 c74 (by omega) be i cap wr.heap.size 1 (ptrs L.E) [pb e] hrowa rfl (fun v hv => by simp at hv; rw [hv]; rfl) (fun j v hj => by
          have hj0 : j = 0 := by
            rcases Nat.eq_zero_or_pos j with h | h
            · exact h
            · rw [List.getElem?_eq_none (by simp; omega)] at hj; cases hj
          subst hj0
          obtain rfl : pb e = v := by simpa using hj
          rw [World.cell?_alloc_at _ _ _ _ rfl]; rfl) (by omega) (by omega)
        rw [hsl] at hrun
        have hC : Chg (fun k => k = be ∧ 0 < cap) wr w' := ((Chg.refl _ wr).alloc _).trans hchg (fun _ _ h => h)
        have HR' : Hid (RowW w' 1 be' (i + 1) cap' (push (ptrs L.E) i [pb e])) := hrow'
        have HC : Hid (Chg (fun k => k = be ∧ 0 < cap) wr w') := hC
        have HCase : Hid (be' = be ∧ 0 < cap ∨ be' = (wr.alloc (.cells #[pb e] 74)).heap.size) := hcase
        clear hsl hbe hrowa hrow' hC hchg hcase hlt'
        go_wp2_with (at_builtin; refine Lib.wpList_append_run _ rfl _ _ _ _ rfl _ _ rfl rfl _ _ hrun ?_)
        any_goals (rename (s != 5) = false ∨ (s != 2) = false => h
                   exfalso
                   rcases h with h | h
                   all_goals simp [bne, hs5', hs2'] at h)
        refine ⟨⟨i + 1, be', cap', _, by simp, rfl, by omega, by omega, ?_, ?_, ?_, ?_⟩, ?_⟩
        · have := HR'.out.le
          rw [if_neg (by omega)]
        · have hV : push (ptrs L.E) i [pb e] = fun j => if j = i then [pb e] else ptrs L.E j := rfl
          have h := HR'.out
          refine ⟨h.le, h.big, fun j hj => rfl, fun j hj => ?_, h.here, h.thaw⟩
          have h2 := h.lies j hj
          rw [hV] at h2
          by_cases hji : j = i
          · subst hji
            simp only [if_pos rfl] at h2
            rw [HE.out] at h2
            exact h2
          · simp only [if_neg hji] at h2
            exact h2
        · intro _
          rcases HCase.out with ⟨h1, h2⟩ | h1
          · rw [h1]; exact HNew.out h2
          · rw [h1]
            have := HB.out.size
            simp
            omega
        · exact HB.out.trans (HC.out.below HB.out.size (fun k hk ⟨h1, h2⟩ => by have := HNew.out h2; omega))
        · simp only [RowKit.intOf]
          omega
    · obtain rfl : i = L.n := by omega
      go_wp2
      go_ret
      have hmin : min kn L.n = L.n := by omega
      refine ⟨be, cap, ?_, ?_, HNew.out, HB.out⟩
      · (try rw [hmin]); unfold slV; rw [← HAd.out]; rfl
      · (try rw [hmin]); exact HRow.out
end Go.Proofs.Ybulkchfs
