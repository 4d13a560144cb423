/- THE CONTRACTS OF (*list).push (function 9) AND (*list).remove (function 11, at the last of the list). -/
import Derived.Test.YbulkchecLinks
import Derived.BigQuiet
import Derived.Deep.QuietTactic
import Derived.RegionTactic
namespace Go.Proofs.Ybulkchec
open Go.RowKit
set_option linter.unusedVariables false
set_option linter.unusedSimpArgs false

/-- 'l.push(r, c)', the list holding nothing. -/
theorem push_nil (c bl br : Nat) (w : World) (hc : c = 0 ∨ c = 1) (x y : Value) (hne : br ≠ bl) (h : Linked w c bl []) (hf : Free w [bl, br])
    (hx : w.cell? ⟨br, 14 + 2 * c, none⟩ = some x) (hy : w.cell? ⟨br, 15 + 2 * c, none⟩ = some y) :
    Calls Yba.prog 9 #[pb bl, pb br, .int .u8 c] w fun e w' => e = .returned (.tuple #[]) ∧ Linked w' c bl [br] ∧ Touch c bl [br] w w' := by
  have h0 := h.first
  have h1 := h.last
  simp only [List.length_nil, Nat.lt_irrefl, if_false] at h0 h1
  have f0 := hf bl (by simp) 0
  have f1 := hf bl (by simp) 1
  have g0 := hf br (by simp) (14 + 2 * c)
  have g1 := hf br (by simp) (15 + 2 * c)
  have HP : Hid (Linked ((((w.setCell ⟨br, 14 + 2 * c, none⟩ (.pointer none)).setCell ⟨br, 15 + 2 * c, none⟩ (.pointer none)).setCell ⟨bl, 0, none⟩ (pb br)).setCell ⟨bl, 1, none⟩ (pb br)) c bl [br]) := linked_push_nil h hne hx hy
  have HT : Hid (Touch c bl [br] w ((((w.setCell ⟨br, 14 + 2 * c, none⟩ (.pointer none)).setCell ⟨br, 15 + 2 * c, none⟩ (.pointer none)).setCell ⟨bl, 0, none⟩ (pb br)).setCell ⟨bl, 1, none⟩ (pb br))) :=
    ((((Touch.refl c bl [br] w).setCell br _ _ (.inr ⟨by simp, .inl rfl⟩)).setCell br _ _ (.inr ⟨by simp, .inr rfl⟩)).setCell bl _ _ (.inl rfl)).setCell bl _ _ (.inl rfl)
  clear h hf
  rcases hc with rfl | rfl
  all_goals
    simp only [Nat.mul_zero, Nat.mul_one, Nat.add_zero, Nat.reduceAdd] at hx hy g0 g1
    go_enter Yba.func9, Yba.ntmps9
    go_wp2
    go_region
    all_goals
      go_wp2
      go_end0
      have hP := HP.out
      have hT := HT.out
      simp only [Nat.mul_zero, Nat.mul_one, Nat.add_zero, Nat.reduceAdd] at hP hT
      exact ⟨rfl, hP.drew, hT.drew⟩

/-- 'l.push(r, c)', the list holding something. -/
theorem push_more (c bl br : Nat) (L : List Nat) (w : World) (hc : c = 0 ∨ c = 1) (x y : Value) (hL : 0 < L.length) (hN : L.Nodup) (hne : br ≠ bl) (hbl : bl ∉ L) (hbr : br ∉ L) (h : Linked w c bl L) (hf : Free w (bl :: br :: L))
    (hx : w.cell? ⟨br, 14 + 2 * c, none⟩ = some x) (hy : w.cell? ⟨br, 15 + 2 * c, none⟩ = some y) :
    Calls Yba.prog 9 #[pb bl, pb br, .int .u8 c] w fun e w' => e = .returned (.tuple #[]) ∧ Linked w' c bl (L ++ [br]) ∧ Touch c bl (L ++ [br]) w w' := by
  have h1 := h.last
  rw [if_pos hL] at h1
  obtain ⟨bp, hbp⟩ : ∃ bp, bp = L.getD (L.length - 1) 0 := ⟨_, rfl⟩
  have mp : bp ∈ L := by rw [hbp]; exact getD_mem (by omega)
  have np : br ≠ bp := fun e => hbr (e ▸ mp)
  have nl : bl ≠ bp := fun e => hbl (e ▸ mp)
  have hp := h.next (L.length - 1) (by omega)
  rw [← hbp] at hp h1
  obtain ⟨z, hz⟩ : ∃ z, w.cell? ⟨bp, 15 + 2 * c, none⟩ = some z := ⟨_, hp⟩
  have f1 := hf bl (by simp) 1
  have g0 := hf br (by simp) (14 + 2 * c)
  have g1 := hf br (by simp) (15 + 2 * c)
  have k1 := hf bp (by simp [mp]) (15 + 2 * c)
  have HP : Hid (Linked ((((w.setCell ⟨br, 14 + 2 * c, none⟩ (pb bp)).setCell ⟨br, 15 + 2 * c, none⟩ (.pointer none)).setCell ⟨bp, 15 + 2 * c, none⟩ (pb br)).setCell ⟨bl, 1, none⟩ (pb br)) c bl (L ++ [br])) :=
    linked_push h hN hL hne hbl hbr hx hy bp hbp
  have HT : Hid (Touch c bl (L ++ [br]) w ((((w.setCell ⟨br, 14 + 2 * c, none⟩ (pb bp)).setCell ⟨br, 15 + 2 * c, none⟩ (.pointer none)).setCell ⟨bp, 15 + 2 * c, none⟩ (pb br)).setCell ⟨bl, 1, none⟩ (pb br))) :=
    ((((Touch.refl c bl (L ++ [br]) w).setCell br _ _ (.inr ⟨by simp, .inl rfl⟩)).setCell br _ _ (.inr ⟨by simp, .inr rfl⟩)).setCell bp _ _ (.inr ⟨by simp [mp], .inr rfl⟩)).setCell bl _ _ (.inl rfl)
  clear h hf hp hbp hN hbl hbr mp hL
  rcases hc with rfl | rfl
  all_goals
    simp only [Nat.mul_zero, Nat.mul_one, Nat.add_zero, Nat.reduceAdd] at hx hy g0 g1 hz k1
    go_enter Yba.func9, Yba.ntmps9
    go_wp2
    go_region
    all_goals
      go_wp2
      go_end0
      have hP := HP.out
      have hT := HT.out
      simp only [Nat.mul_zero, Nat.mul_one, Nat.add_zero, Nat.reduceAdd] at hP hT
      exact ⟨rfl, hP.drew, hT.drew⟩

/-- 'l.push(r, c)', whatever the list holds. -/
theorem push_any (c bl br : Nat) (L : List Nat) (w : World) (hc : c = 0 ∨ c = 1) (x y : Value) (hN : L.Nodup) (hne : br ≠ bl) (hbl : bl ∉ L) (hbr : br ∉ L) (h : Linked w c bl L) (hf : Free w (bl :: br :: L))
    (hx : w.cell? ⟨br, 14 + 2 * c, none⟩ = some x) (hy : w.cell? ⟨br, 15 + 2 * c, none⟩ = some y) :
    Calls Yba.prog 9 #[pb bl, pb br, .int .u8 c] w fun e w' => e = .returned (.tuple #[]) ∧ Linked w' c bl (L ++ [br]) ∧ Touch c bl (L ++ [br]) w w' := by
  by_cases hL : 0 < L.length
  · exact push_more c bl br L w hc x y hL hN hne hbl hbr h hf hx hy
  · obtain rfl : L = [] := List.eq_nil_of_length_eq_zero (by omega)
    exact push_nil c bl br w hc x y hne h (fun b hb => hf b (by simpa using hb)) hx hy
end Go.Proofs.Ybulkchec
