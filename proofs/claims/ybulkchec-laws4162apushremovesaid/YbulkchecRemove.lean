/- THE CONTRACT OF (*list).remove (function 11), at the last of the list. -/
import Derived.Test.YbulkchecLinks
import Derived.BigQuiet
import Derived.Deep.QuietTactic
import Derived.RegionTactic
namespace Go.Proofs.Ybulkchec
open Go.RowKit
set_option linter.unusedVariables false
set_option linter.unusedSimpArgs false

theorem remove_one (c bl x : Nat) (w : World) (hc : c = 0 ∨ c = 1) (hne : x ≠ bl)
    (h0 : w.cell? ⟨bl, 0, none⟩ = some (pb x)) (h1 : w.cell? ⟨bl, 1, none⟩ = some (pb x))
    (hp : w.cell? ⟨x, 14 + 2 * c, none⟩ = some (.pointer none)) (hn : w.cell? ⟨x, 15 + 2 * c, none⟩ = some (.pointer none)) (f0 : w.frozen? ⟨bl, 0, none⟩ = false) (f1 : w.frozen? ⟨bl, 1, none⟩ = false)
    (g0 : w.frozen? ⟨x, 14 + 2 * c, none⟩ = false) (g1 : w.frozen? ⟨x, 15 + 2 * c, none⟩ = false) :
    Calls Yba.prog 11 #[pb bl, pb x, .int .u8 c] w fun e w' => e = .returned (.tuple #[]) ∧ ∃ ob m, w' = (((((w.setCell ⟨bl, 0, none⟩ (.pointer none)).setCell ⟨bl, 1, none⟩ (.pointer none)).setCell ⟨x, 14 + 2 * c, none⟩ (.pointer none)).setCell ⟨x, 15 + 2 * c, none⟩ (.pointer none)).alloc ob).drewN m := by
  have sx : x < w.heap.size := World.block_lt_of_cell? w _ hp
  have sl : bl < w.heap.size := World.block_lt_of_cell? w _ h0
  rcases hc with rfl | rfl
  all_goals
    simp only [Nat.mul_zero, Nat.mul_one, Nat.add_zero, Nat.reduceAdd] at hp hn g0 g1 ⊢
    go_enter Yba.func11, Yba.ntmps11
    go_wp2
    go_end0
    exact ⟨rfl, _, 0, rfl⟩

theorem remove_two (c bl bp x : Nat) (u : Value) (w : World) (hc : c = 0 ∨ c = 1) (hne : x ≠ bl) (hpx : bp ≠ x) (hpl : bp ≠ bl)
    (h1 : w.cell? ⟨bl, 1, none⟩ = some (pb x)) (hu : w.cell? ⟨bp, 15 + 2 * c, none⟩ = some u)
    (hp : w.cell? ⟨x, 14 + 2 * c, none⟩ = some (pb bp)) (hn : w.cell? ⟨x, 15 + 2 * c, none⟩ = some (.pointer none)) (f1 : w.frozen? ⟨bl, 1, none⟩ = false)
    (g0 : w.frozen? ⟨x, 14 + 2 * c, none⟩ = false) (g1 : w.frozen? ⟨x, 15 + 2 * c, none⟩ = false) (k1 : w.frozen? ⟨bp, 15 + 2 * c, none⟩ = false) :
    Calls Yba.prog 11 #[pb bl, pb x, .int .u8 c] w fun e w' => e = .returned (.tuple #[]) ∧ ∃ ob m, w' = (((((w.setCell ⟨bp, 15 + 2 * c, none⟩ (.pointer none)).setCell ⟨bl, 1, none⟩ (pb bp)).setCell ⟨x, 14 + 2 * c, none⟩ (.pointer none)).setCell ⟨x, 15 + 2 * c, none⟩ (.pointer none)).alloc ob).drewN m := by
  have sx : x < w.heap.size := World.block_lt_of_cell? w _ hp
  have sl : bl < w.heap.size := World.block_lt_of_cell? w _ h1
  have sp : bp < w.heap.size := World.block_lt_of_cell? w _ hu
  rcases hc with rfl | rfl
  all_goals
    simp only [Nat.mul_zero, Nat.mul_one, Nat.add_zero, Nat.reduceAdd] at hp hn g0 g1 hu k1 ⊢
    go_enter Yba.func11, Yba.ntmps11
    go_wp2
    go_region
    all_goals
      go_wp2
      go_end0
      exact ⟨rfl, _, 1, rfl⟩

/-- 'l.remove(x, c)', x the last of what the list holds. -/
theorem remove_last (c bl x : Nat) (L : List Nat) (w : World) (hc : c = 0 ∨ c = 1) (hN : (L ++ [x]).Nodup) (hbl : bl ∉ L ++ [x]) (h : Linked w c bl (L ++ [x])) (hf : Free w (bl :: (L ++ [x]))) :
    Calls Yba.prog 11 #[pb bl, pb x, .int .u8 c] w fun e w' => e = .returned (.tuple #[]) ∧ ∃ w1 ob m, w' = (w1.alloc ob).drewN m ∧ Linked w1 c bl L ∧
      w1.cell? ⟨x, 14 + 2 * c, none⟩ = some (.pointer none) ∧ w1.cell? ⟨x, 15 + 2 * c, none⟩ = some (.pointer none) ∧ Touch c bl (L ++ [x]) w w1 := by
  have hlen : (L ++ [x]).length = L.length + 1 := by simp
  have hne : x ≠ bl := fun e => hbl (by simp [e])
  have hx := h.prev L.length (by omega)
  have hy := h.next L.length (by omega)
  have hl := h.last
  have h0 := h.first
  rw [getD_snoc_eq] at hx hy
  rw [hlen, if_neg (by omega)] at hy
  rw [hlen, if_pos (by omega), Nat.add_sub_cancel, getD_snoc_eq] at hl
  rw [hlen, if_pos (by omega)] at h0
  have f0 := hf bl (by simp) 0
  have f1 := hf bl (by simp) 1
  have g0 := hf x (by simp) (14 + 2 * c)
  have g1 := hf x (by simp) (15 + 2 * c)
  by_cases hL : 0 < L.length
  · obtain ⟨bp, hbp⟩ : ∃ bp, bp = L.getD (L.length - 1) 0 := ⟨_, rfl⟩
    have mp : bp ∈ L := by rw [hbp]; exact getD_mem (by omega)
    rw [if_pos hL, getD_snoc_lt (by omega), ← hbp] at hx
    rw [getD_snoc_lt hL] at h0
    have hpl : bp ≠ bl := fun e => hbl (by simp [← e, mp])
    have hpx : bp ≠ x := fun e => (List.nodup_append.1 hN).2.2 bp mp x (by simp) e
    have hu := h.next (L.length - 1) (by omega)
    rw [getD_snoc_lt (by omega), ← hbp] at hu
    have e1 := fun b o => cell_set w bp (15 + 2 * c) b o (.pointer none) _ hu
    have e2 := fun b o => cell_set _ bl 1 b o (pb bp) _ ((e1 bl 1).trans (by rw [if_neg (by omega)]; exact hl))
    have e3 := fun b o => cell_set _ x (14 + 2 * c) b o (.pointer none) _ ((e2 x (14 + 2 * c)).trans (by rw [if_neg (by omega), e1, if_neg (by omega)]; exact hx))
    have e4 := fun b o => cell_set _ x (15 + 2 * c) b o (.pointer none) _ ((e3 x (15 + 2 * c)).trans (by rw [if_neg (by omega), e2, if_neg (by omega), e1, if_neg (by omega)]; exact hy))
    refine (remove_two c bl bp x _ w hc hne hpx hpl hl hu hx hy f1 g0 g1 (hf bp (by simp [mp]) _)).mono ?_
    rintro e w' ⟨rfl, ob, m, rfl⟩
    refine ⟨rfl, _, ob, m, rfl, linked_pop h hN hbl ?_ ?_ ?_ ?_ ?_, ?_, ?_, ?_⟩
    · rw [e4, if_neg (by omega), e3, if_neg (by omega), e2, if_neg (by omega), e1, if_neg (by omega), h0, if_pos hL]
    · rw [e4, if_neg (by omega), e3, if_neg (by omega), e2, if_pos ⟨rfl, rfl⟩, if_pos hL, hbp]
    · intro b hb
      have n1 : x ≠ b := fun e => (List.nodup_append.1 hN).2.2 b hb x (by simp) e.symm
      have n2 : bl ≠ b := fun e => hbl (by simp [e, hb])
      rw [e4, if_neg (by omega), e3, if_neg (by omega), e2, if_neg (by omega), e1, if_neg (by omega)]
    · intro b hb hb2
      have n1 : x ≠ b := fun e => (List.nodup_append.1 hN).2.2 b hb x (by simp) e.symm
      have n2 : bl ≠ b := fun e => hbl (by simp [e, hb])
      have n3 : bp ≠ b := fun e => hb2 (by rw [← e, hbp])
      rw [e4, if_neg (by omega), e3, if_neg (by omega), e2, if_neg (by omega), e1, if_neg (by omega)]
    · intro _
      rw [← hbp, e4, if_neg (by omega), e3, if_neg (by omega), e2, if_neg (by omega), e1, if_pos ⟨rfl, rfl⟩]
    · rw [e4, if_neg (by omega), e3, if_pos ⟨rfl, rfl⟩]
    · rw [e4, if_pos ⟨rfl, rfl⟩]
    · exact ((((Touch.refl c bl (L ++ [x]) w).setCell bp _ _ (.inr ⟨by simp [mp], .inr rfl⟩)).setCell bl _ _ (.inl rfl)).setCell x _ _ (.inr ⟨by simp, .inl rfl⟩)).setCell x _ _ (.inr ⟨by simp, .inr rfl⟩)
  · obtain rfl : L = [] := List.eq_nil_of_length_eq_zero (by omega)
    rw [if_neg (by omega)] at hx
    simp only [List.nil_append, List.getD_cons_zero] at h0
    have e1 := fun b o => cell_set w bl 0 b o (.pointer none) _ h0
    have e2 := fun b o => cell_set _ bl 1 b o (.pointer none) _ ((e1 bl 1).trans (by rw [if_neg (by omega)]; exact hl))
    have e3 := fun b o => cell_set _ x (14 + 2 * c) b o (.pointer none) _ ((e2 x (14 + 2 * c)).trans (by rw [if_neg (by omega), e1, if_neg (by omega)]; exact hx))
    have e4 := fun b o => cell_set _ x (15 + 2 * c) b o (.pointer none) _ ((e3 x (15 + 2 * c)).trans (by rw [if_neg (by omega), e2, if_neg (by omega), e1, if_neg (by omega)]; exact hy))
    refine (remove_one c bl x w hc hne h0 hl hx hy f0 f1 g0 g1).mono ?_
    rintro e w' ⟨rfl, ob, m, rfl⟩
    refine ⟨rfl, _, ob, m, rfl, ⟨?_, ?_, fun i hi => absurd hi (by simp), fun i hi => absurd hi (by simp)⟩, ?_, ?_, ?_⟩
    · rw [e4, if_neg (by omega), e3, if_neg (by omega), e2, if_neg (by omega), e1, if_pos ⟨rfl, rfl⟩]; simp
    · rw [e4, if_neg (by omega), e3, if_neg (by omega), e2, if_pos ⟨rfl, rfl⟩]; simp
    · rw [e4, if_neg (by omega), e3, if_pos ⟨rfl, rfl⟩]
    · rw [e4, if_pos ⟨rfl, rfl⟩]
    · exact ((((Touch.refl c bl ([] ++ [x]) w).setCell bl _ _ (.inl rfl)).setCell bl _ _ (.inl rfl)).setCell x _ _ (.inr ⟨by simp, .inl rfl⟩)).setCell x _ _ (.inr ⟨by simp, .inr rfl⟩)
end Go.Proofs.Ybulkchec
