/-
  THE PLAIN SIDE OF THE THREE LIST LAWS: what a list of requests is in memory, and what pushing and removing do to it. No walk of Go text here.
  A request is a block of 18 cells (type 44): its links lie at offsets 14, 15 (chain 0) and 16, 17 (chain 1); its seq at 12. A list is a block of two cells (type 28): first, last.
-/
import Derived.Test.YbulkchecRows
import Derived.WalkKit
import Derived.ChangeAlike
import Derived.Deep.OwnRows
import Derived.LaidEqlPtr
namespace Go.Proofs.Ybulkchec
open Go.RowKit
set_option linter.unusedVariables false

theorem getD_at {L : List Nat} {i : Nat} (h : i < L.length) : L.getD i 0 = L[i] := by simp [List.getD_eq_getElem?_getD, h]

/-- A pointer to the head of block b. -/
abbrev pb (b : Nat) : Value := .pointer (some ⟨b, 0, none⟩)

/-- '!=' and '==' between a pointer to a request and itself. -/
theorem neq_same (b : Nat) (w : World) : (binOp .neq 26 (pb b) (pb b)).run Yba.prog w = .ok (.bool false) w := by
  have hp : Yba.prog.underlying 26 = some (.pointer 44) := by kernel_rfl
  have h : ∀ d : Nat, (Op.equalIn (d + 1) 26 (pb b) (pb b)).run Yba.prog w = .ok true w := fun d => by
    have hs : (Yba.prog.info? 44).isSome = true := by kernel_rfl
    obtain ⟨j, hj⟩ := Option.isSome_iff_exists.1 hs
    simp [Op.equalIn, run_underlying hp, sizeOf, typeInfo, hj, run_sameAddr_same]
  simp only [binOp]
  simp [Op.equal, Op.maxDepth, h 9999]

/-- 'links != links{}' at two nil links. -/
theorem links_zero (w : World) : (binOp .neq 41 (.agg #[.pointer none, .pointer none]) (.agg #[.pointer none, .pointer none])).run Yba.prog w = .ok (.bool false) w := by kernel_rfl

/-- The list at block bl, read through chain c, holds the requests at the blocks L, in order, with right links both ways. -/
structure Linked (w : World) (c bl : Nat) (L : List Nat) : Prop where
  first : w.cell? ⟨bl, 0, none⟩ = some (if 0 < L.length then pb (L.getD 0 0) else .pointer none)
  last : w.cell? ⟨bl, 1, none⟩ = some (if 0 < L.length then pb (L.getD (L.length - 1) 0) else .pointer none)
  prev : ∀ i, i < L.length → w.cell? ⟨L.getD i 0, 14 + 2 * c, none⟩ = some (if 0 < i then pb (L.getD (i - 1) 0) else .pointer none)
  next : ∀ i, i < L.length → w.cell? ⟨L.getD i 0, 15 + 2 * c, none⟩ = some (if i + 1 < L.length then pb (L.getD (i + 1) 0) else .pointer none)

/-- None of the blocks bs bears a frozen cell. -/
def Free (w : World) (bs : List Nat) : Prop := ∀ b, b ∈ bs → ∀ o, w.frozen? ⟨b, o, none⟩ = false

/-- What pushing and removing through chain c may touch: the list's block bl, and the two link cells of chain c of the blocks S. -/
structure Touch (c bl : Nat) (S : List Nat) (w w' : World) : Prop where
  cell : ∀ b o, b ≠ bl → (b ∉ S ∨ (o ≠ 14 + 2 * c ∧ o ≠ 15 + 2 * c)) → w'.cell? ⟨b, o, none⟩ = w.cell? ⟨b, o, none⟩
  frozen : ∀ a, w'.frozen? a = w.frozen? a
  block : ∀ b, b ≠ bl → b ∉ S → w'.heap[b]? = w.heap[b]?
  size : w'.heap.size = w.heap.size
  os : w'.os = w.os
  tape : w'.tape = w.tape
  output : w'.output = w.output

theorem Touch.refl (c bl : Nat) (S : List Nat) (w : World) : Touch c bl S w w := ⟨fun _ _ _ _ => rfl, fun _ => rfl, fun _ _ _ => rfl, rfl, rfl, rfl, rfl⟩

theorem Touch.setCell {c bl : Nat} {S : List Nat} {w w1 : World} (h : Touch c bl S w w1) (b o : Nat) (v : Value) (ok : b = bl ∨ (b ∈ S ∧ (o = 14 + 2 * c ∨ o = 15 + 2 * c))) : Touch c bl S w (w1.setCell ⟨b, o, none⟩ v) := by
  refine ⟨fun b' o' hb hs => ?_, fun a => by rw [World.frozen?_setCell]; exact h.frozen a, fun b' hb hs => ?_, by rw [World.size_setCell]; exact h.size, h.os, h.tape, h.output⟩
  · rw [World.cell?_setCell_other]
    · exact h.cell b' o' hb hs
    · intro e
      injection e with e1 e2
      subst e1 e2
      rcases ok with ok | ⟨ok, ok2⟩
      · exact hb ok
      · rcases hs with hs | hs
        · exact hs ok
        · omega
  · rw [Below.heap_setCell]
    · exact h.block b' hb hs
    · show b' ≠ b
      rintro rfl
      rcases ok with ok | ⟨ok, _⟩
      · exact hb ok
      · exact hs ok

theorem Touch.alike {c bl : Nat} {S : List Nat} {w w1 w2 : World} (h : Touch c bl S w w1) (e : w2.heap = w1.heap) (e1 : w2.os = w1.os) (e2 : w2.tape = w1.tape) (e3 : w2.output = w1.output) : Touch c bl S w w2 :=
  ⟨fun b o hb hs => by rw [← h.cell b o hb hs]; simp [World.cell?, e], fun a => by rw [← h.frozen a]; simp [World.frozen?, e], fun b hb hs => by rw [e]; exact h.block b hb hs, by rw [e]; exact h.size, e1.trans h.os, e2.trans h.tape, e3.trans h.output⟩

theorem Touch.drew {c bl : Nat} {S : List Nat} {w w1 : World} (h : Touch c bl S w w1) : Touch c bl S w w1.drew := h.alike rfl rfl rfl rfl

/-- From B on alone. -/
theorem Touch.below {c bl : Nat} {S : List Nat} {w w' : World} (h : Touch c bl S w w') {B : Nat} (hl : B ≤ bl) (hS : ∀ b, b ∈ S → B ≤ b) : Below B w w' :=
  ⟨h.os, h.tape, h.output, Nat.le_of_eq h.size.symm, fun k hk => h.block k (by omega) (fun e => by have := hS k e; omega)⟩

/-- A cell behind a store. -/
theorem cell_set (w : World) (b o b' o' : Nat) (v u : Value) (h : w.cell? ⟨b, o, none⟩ = some u) :
    (w.setCell ⟨b, o, none⟩ v).cell? ⟨b', o', none⟩ = if b = b' ∧ o = o' then some v else w.cell? ⟨b', o', none⟩ := by
  by_cases e : b = b' ∧ o = o'
  · obtain ⟨rfl, rfl⟩ := e
    rw [if_pos ⟨rfl, rfl⟩]
    exact World.cell?_setCell_same _ _ _ h
  · rw [if_neg e]
    exact World.cell?_setCell_other _ _ _ _ (fun h => e (by injection h with h1 h2; exact ⟨h1, h2⟩))

/-- Linked hangs on the list's two cells and the link cells of chain c alone. -/
theorem Linked.carry {w w' : World} {c bl : Nat} {L : List Nat} (h : Linked w c bl L) (h0 : w'.cell? ⟨bl, 0, none⟩ = w.cell? ⟨bl, 0, none⟩) (h1 : w'.cell? ⟨bl, 1, none⟩ = w.cell? ⟨bl, 1, none⟩)
    (hp : ∀ b, b ∈ L → w'.cell? ⟨b, 14 + 2 * c, none⟩ = w.cell? ⟨b, 14 + 2 * c, none⟩) (hn : ∀ b, b ∈ L → w'.cell? ⟨b, 15 + 2 * c, none⟩ = w.cell? ⟨b, 15 + 2 * c, none⟩) : Linked w' c bl L :=
  ⟨h0.trans h.first, h1.trans h.last, fun i hi => (hp _ (by rw [getD_at hi]; exact List.getElem_mem hi)).trans (h.prev i hi),
    fun i hi => (hn _ (by rw [getD_at hi]; exact List.getElem_mem hi)).trans (h.next i hi)⟩

theorem Linked.drew {w : World} {c bl : Nat} {L : List Nat} (h : Linked w c bl L) : Linked w.drew c bl L := h.carry rfl rfl (fun _ _ => rfl) (fun _ _ => rfl)

theorem getD_mem {L : List Nat} {i : Nat} (h : i < L.length) : L.getD i 0 ∈ L := by rw [getD_at h]; exact List.getElem_mem h

theorem getD_inj {L : List Nat} (hN : L.Nodup) {i j : Nat} (hi : i < L.length) (hj : j < L.length) (h : L.getD i 0 = L.getD j 0) : i = j := by
  rw [getD_at hi, getD_at hj] at h
  exact (List.getElem_inj hN).1 h

theorem getD_snoc_lt {L : List Nat} {x i : Nat} (h : i < L.length) : (L ++ [x]).getD i 0 = L.getD i 0 := by
  rw [getD_at (by simp; omega), getD_at h, List.getElem_append_left h]

theorem getD_snoc_eq (L : List Nat) (x : Nat) : (L ++ [x]).getD L.length 0 = x := by simp

/-- Pushing onto a list that holds nothing. -/
theorem linked_push_nil {w : World} {c bl br : Nat} (h : Linked w c bl []) (hne : br ≠ bl) {x y : Value} (hx : w.cell? ⟨br, 14 + 2 * c, none⟩ = some x) (hy : w.cell? ⟨br, 15 + 2 * c, none⟩ = some y) :
    Linked ((((w.setCell ⟨br, 14 + 2 * c, none⟩ (.pointer none)).setCell ⟨br, 15 + 2 * c, none⟩ (.pointer none)).setCell ⟨bl, 0, none⟩ (pb br)).setCell ⟨bl, 1, none⟩ (pb br)) c bl [br] := by
  have f0 := h.first
  have f1 := h.last
  have e1 := fun b o => cell_set w br (14 + 2 * c) b o (.pointer none) x hx
  have e2 := fun b o => cell_set _ br (15 + 2 * c) b o (.pointer none) y ((e1 br (15 + 2 * c)).trans (by rw [if_neg (by omega)]; exact hy))
  have e3 := fun b o => cell_set _ bl 0 b o (pb br) _ ((e2 bl 0).trans (by rw [if_neg (by omega), e1, if_neg (by omega)]; exact f0))
  have e4 := fun b o => cell_set _ bl 1 b o (pb br) _ ((e3 bl 1).trans (by rw [if_neg (by omega), e2, if_neg (by omega), e1, if_neg (by omega)]; exact f1))
  refine ⟨?_, ?_, fun i hi => ?_, fun i hi => ?_⟩
  · rw [e4, if_neg (by omega), e3, if_pos ⟨rfl, rfl⟩]; simp
  · rw [e4, if_pos ⟨rfl, rfl⟩]; simp
  · obtain rfl : i = 0 := by simp at hi; omega
    simp only [List.getD_cons_zero]
    rw [e4, if_neg (by omega), e3, if_neg (by omega), e2, if_neg (by omega), e1, if_pos ⟨rfl, rfl⟩]; simp
  · obtain rfl : i = 0 := by simp at hi; omega
    simp only [List.getD_cons_zero]
    rw [e4, if_neg (by omega), e3, if_neg (by omega), e2, if_pos ⟨rfl, rfl⟩]; simp

/-- Pushing onto a list that holds something; its last is bp. -/
theorem linked_push {w : World} {c bl br : Nat} {L : List Nat} (h : Linked w c bl L) (hN : L.Nodup) (hL : 0 < L.length) (hne : br ≠ bl) (hbl : bl ∉ L) (hbr : br ∉ L) {x y : Value}
    (hx : w.cell? ⟨br, 14 + 2 * c, none⟩ = some x) (hy : w.cell? ⟨br, 15 + 2 * c, none⟩ = some y) (bp : Nat) (hbp : bp = L.getD (L.length - 1) 0) :
    Linked ((((w.setCell ⟨br, 14 + 2 * c, none⟩ (pb bp)).setCell ⟨br, 15 + 2 * c, none⟩ (.pointer none)).setCell ⟨bp, 15 + 2 * c, none⟩ (pb br)).setCell ⟨bl, 1, none⟩ (pb br)) c bl (L ++ [br]) := by
  have f0 := h.first
  have f1 := h.last
  rw [if_pos hL] at f0 f1
  have mp : bp ∈ L := by rw [hbp]; exact getD_mem (by omega)
  have np : br ≠ bp := fun e => hbr (e ▸ mp)
  have nl : bl ≠ bp := fun e => hbl (e ▸ mp)
  have hp := h.next (L.length - 1) (by omega)
  rw [← hbp] at hp
  have e1 := fun b o => cell_set w br (14 + 2 * c) b o (pb bp) x hx
  have e2 := fun b o => cell_set _ br (15 + 2 * c) b o (.pointer none) y ((e1 br (15 + 2 * c)).trans (by rw [if_neg (by omega)]; exact hy))
  have e3 := fun b o => cell_set _ bp (15 + 2 * c) b o (pb br) _ ((e2 bp (15 + 2 * c)).trans (by rw [if_neg (by omega), e1, if_neg (by omega)]; exact hp))
  have e4 := fun b o => cell_set _ bl 1 b o (pb br) _ ((e3 bl 1).trans (by rw [if_neg (by omega), e2, if_neg (by omega), e1, if_neg (by omega)]; exact f1))
  have hlen : (L ++ [br]).length = L.length + 1 := by simp
  refine ⟨?_, ?_, fun i hi => ?_, fun i hi => ?_⟩
  · rw [e4, if_neg (by omega), e3, if_neg (by omega), e2, if_neg (by omega), e1, if_neg (by omega), f0, if_pos (by omega), getD_snoc_lt hL]
  · rw [e4, if_pos ⟨rfl, rfl⟩, if_pos (by omega), hlen, Nat.add_sub_cancel, getD_snoc_eq]
  · rw [hlen] at hi
    by_cases hi2 : i < L.length
    · have hm := getD_mem hi2
      have n1 : br ≠ L.getD i 0 := fun e => hbr (e ▸ hm)
      have n2 : bl ≠ L.getD i 0 := fun e => hbl (e ▸ hm)
      rw [getD_snoc_lt hi2, e4, if_neg (by omega), e3, if_neg (by omega), e2, if_neg (by omega), e1, if_neg (by omega), h.prev i hi2]
      by_cases h0 : 0 < i
      · rw [if_pos h0, if_pos h0, getD_snoc_lt (by omega)]
      · rw [if_neg h0, if_neg h0]
    · obtain rfl : i = L.length := by omega
      rw [getD_snoc_eq, e4, if_neg (by omega), e3, if_neg (by omega), e2, if_neg (by omega), e1, if_pos ⟨rfl, rfl⟩, if_pos hL, getD_snoc_lt (by omega), hbp]
  · rw [hlen] at hi
    rw [hlen]
    by_cases hi2 : i < L.length
    · have hm := getD_mem hi2
      have n1 : br ≠ L.getD i 0 := fun e => hbr (e ▸ hm)
      have n2 : bl ≠ L.getD i 0 := fun e => hbl (e ▸ hm)
      rw [getD_snoc_lt hi2, e4, if_neg (by omega), if_pos (by omega)]
      by_cases hi3 : i + 1 = L.length
      · obtain rfl : i = L.length - 1 := by omega
        have e : L.length - 1 + 1 = L.length := by omega
        rw [e3, if_pos ⟨hbp, rfl⟩, e, getD_snoc_eq]
      · have n3 : bp ≠ L.getD i 0 := fun e => by rw [hbp] at e; have := getD_inj hN (by omega) hi2 e; omega
        rw [e3, if_neg (by omega), e2, if_neg (by omega), e1, if_neg (by omega), h.next i hi2, if_pos (by omega), getD_snoc_lt (by omega)]
    · obtain rfl : i = L.length := by omega
      rw [getD_snoc_eq, e4, if_neg (by omega), e3, if_neg (by omega), e2, if_pos ⟨rfl, rfl⟩, if_neg (by omega)]


/-- Removing the last of a list: w' holds what the text of 'remove' leaves. -/
theorem linked_pop {w w' : World} {c bl x : Nat} {L : List Nat} (h : Linked w c bl (L ++ [x])) (hN : (L ++ [x]).Nodup) (hbl : bl ∉ L ++ [x])
    (h0 : w'.cell? ⟨bl, 0, none⟩ = some (if 0 < L.length then pb (L.getD 0 0) else .pointer none)) (h1 : w'.cell? ⟨bl, 1, none⟩ = some (if 0 < L.length then pb (L.getD (L.length - 1) 0) else .pointer none))
    (hp : ∀ b, b ∈ L → w'.cell? ⟨b, 14 + 2 * c, none⟩ = w.cell? ⟨b, 14 + 2 * c, none⟩)
    (hn : ∀ b, b ∈ L → b ≠ L.getD (L.length - 1) 0 → w'.cell? ⟨b, 15 + 2 * c, none⟩ = w.cell? ⟨b, 15 + 2 * c, none⟩)
    (hl : 0 < L.length → w'.cell? ⟨L.getD (L.length - 1) 0, 15 + 2 * c, none⟩ = some (.pointer none)) : Linked w' c bl L := by
  have hlen : (L ++ [x]).length = L.length + 1 := by simp
  have hN' : L.Nodup := (List.nodup_append.1 hN).1
  refine ⟨h0, h1, fun i hi => ?_, fun i hi => ?_⟩
  · have := h.prev i (by omega)
    rw [getD_snoc_lt hi] at this
    rw [hp _ (getD_mem hi), this]
    by_cases e : 0 < i
    · rw [if_pos e, if_pos e, getD_snoc_lt (by omega)]
    · rw [if_neg e, if_neg e]
  · by_cases e : i + 1 < L.length
    · have := h.next i (by omega)
      rw [getD_snoc_lt hi, if_pos (by omega), getD_snoc_lt e] at this
      rw [hn _ (getD_mem hi) (fun e' => by have := getD_inj hN' hi (by omega) e'; omega), this, if_pos e]
    · obtain rfl : i = L.length - 1 := by omega
      rw [hl (by omega), if_neg e]

end Go.Proofs.Ybulkchec
