/- THE LOOP THAT PUSHES FRESH REQUESTS (laws Order and PushRemove): what holds of the world after k rounds. No walk here. -/
import Derived.Test.YbulkchecPush
import Derived.Deep.Draws
namespace Go.Proofs.Ybulkchec
open Go.RowKit
set_option linter.unusedVariables false

/-- AFTER k ROUNDS: the array of pointers lies in block N, the list in block N + 1, the requests in the blocks L. -/
structure Ord (w : World) (N c n k : Nat) (Z : Nat → Int) (L : List Nat) (wr : World) : Prop where
  len : L.length = k
  nodup : L.Nodup
  lo : ∀ b, b ∈ L → N + 2 ≤ b
  hi : ∀ b, b ∈ L → b < wr.heap.size
  size : N + 2 ≤ wr.heap.size
  arr : wr.rowIs N 26 n (fun i => if i < k then pb (L.getD i 0) else .pointer none)
  linked : Linked wr c (N + 1) L
  free : Free wr ((N + 1) :: L)
  seq : ∀ i, i < k → wr.cell? ⟨L.getD i 0, 12, none⟩ = some (.int .u64 (Z i))
  oth : ∀ i, i < k → wr.cell? ⟨L.getD i 0, 14 + 2 * (1 - c), none⟩ = some (.pointer none) ∧ wr.cell? ⟨L.getD i 0, 15 + 2 * (1 - c), none⟩ = some (.pointer none)
  below : Below N w wr

/-- What hangs on the heap alone stands behind a draw. -/
theorem Ord.alike {w : World} {N c n k : Nat} {Z : Nat → Int} {L : List Nat} {wr wr' : World} (h : Ord w N c n k Z L wr) (e : wr'.heap = wr.heap) (e1 : wr'.os = wr.os) (e2 : wr'.tape = wr.tape) (e3 : wr'.output = wr.output) : Ord w N c n k Z L wr' := by
  have hc : ∀ a, wr'.cell? a = wr.cell? a := fun a => by simp [World.cell?, e]
  have hf : ∀ a, wr'.frozen? a = wr.frozen? a := fun a => by simp [World.frozen?, e]
  exact ⟨h.len, h.nodup, h.lo, fun b hb => by rw [e]; exact h.hi b hb, by rw [e]; exact h.size, h.arr.of_block (by rw [e]), h.linked.carry (hc _) (hc _) (fun _ _ => hc _) (fun _ _ => hc _),
    fun b hb o => (hf _).trans (h.free b hb o), fun i hi => (hc _).trans (h.seq i hi), fun i hi => ⟨(hc _).trans (h.oth i hi).1, (hc _).trans (h.oth i hi).2⟩,
    ⟨e1.trans h.below.os, e2.trans h.below.tape, e3.trans h.below.output, by rw [e]; exact h.below.size, fun k hk => by rw [e]; exact h.below.block k hk⟩⟩

theorem Ord.drewN {w : World} {N c n k : Nat} {Z : Nat → Int} {L : List Nat} {wr : World} (h : Ord w N c n k Z L wr) (m : Nat) : Ord w N c n k Z L (wr.drewN m) := h.alike rfl rfl rfl rfl

/-- THE CELLS OF A FRESH REQUEST, its seq z. -/
abbrev reqCells (z : Int) : Array Value :=
  #[.pointer none, .string ⟨#[]⟩, .string ⟨#[]⟩, .int .i64 0, .bool false, .int .u8 0, .int .u8 0, .int .u8 0, .int .u64 0, .int .i64 0, .pointer none, .chan none, .int .u64 z, .bool false,
    .pointer none, .pointer none, .pointer none, .pointer none]

/-- At the start: the array made, the list laid. -/
theorem ord_start (w : World) (c n : Nat) (Z : Nat → Int) : Ord w w.heap.size c n 0 Z [] ((w.alloc (.cells (madeCells #[.pointer none] n) 26)).alloc (.cells #[.pointer none, .pointer none] 28)) := by
  have hs : (w.alloc (.cells (madeCells #[.pointer none] n) 26)).heap.size = w.heap.size + 1 := by simp
  have h0 := World.cell?_alloc_at (w := w.alloc (.cells (madeCells #[.pointer none] n) 26)) #[.pointer none, .pointer none] 28 (w.heap.size + 1) 0 hs.symm
  have h1 := World.cell?_alloc_at (w := w.alloc (.cells (madeCells #[.pointer none] n) 26)) #[.pointer none, .pointer none] 28 (w.heap.size + 1) 1 hs.symm
  refine ⟨rfl, List.nodup_nil, fun b hb => absurd hb (by simp), fun b hb => absurd hb (by simp), by simp, ?_, ⟨by rw [h0]; simp, by rw [h1]; simp, fun i hi => absurd hi (by simp), fun i hi => absurd hi (by simp)⟩, ?_, fun i hi => absurd hi (by omega), fun i hi => absurd hi (by omega), ?_⟩
  · exact ((World.rowIs_made w (.pointer none) n 26).alloc _).congr (fun i _ => by simp)
  · intro b hb o
    simp only [List.mem_singleton] at hb
    subst hb
    exact World.frozen?_alloc_at _ _ _ _ hs.symm
  · exact ((Below.refl _ w).alloc (Nat.le_refl _) _).alloc (by rw [hs]; omega) _

/-- ONE ROUND: the new request lies in the block wr.heap.size, its pointer in the array's k-th cell; it is pushed. -/
theorem ord_push {w : World} {N c n k : Nat} {Z : Nat → Int} {L : List Nat} {wr : World} (hc : c = 0 ∨ c = 1) (ci : Int) (hci : ci = (c : Int)) (h : Ord w N c n k Z L wr) (hk : k < n) :
    Calls Yba.prog 9 #[pb (N + 1), pb wr.heap.size, .int .u8 ci] ((wr.setCell ⟨N, k, none⟩ (pb wr.heap.size)).alloc (.cells (reqCells (Z k)) 44)) fun e w' =>
      e = .returned (.tuple #[]) ∧ Ord w N c n (k + 1) Z (L ++ [wr.heap.size]) w' := by
  subst hci
  have hsz := h.size
  have hs : (wr.setCell ⟨N, k, none⟩ (pb wr.heap.size)).heap.size = wr.heap.size := by simp
  obtain ⟨W, hW⟩ : ∃ W, W = (wr.setCell ⟨N, k, none⟩ (pb wr.heap.size)).alloc (.cells (reqCells (Z k)) 44) := ⟨_, rfl⟩
  have hWs : W.heap.size = wr.heap.size + 1 := by rw [hW]; simp
  have hnew : ∀ o, W.cell? ⟨wr.heap.size, o, none⟩ = (reqCells (Z k))[o]? := fun o => by rw [hW]; exact World.cell?_alloc_at _ _ _ _ hs.symm
  have hnewf : ∀ o, W.frozen? ⟨wr.heap.size, o, none⟩ = false := fun o => by rw [hW]; exact World.frozen?_alloc_at _ _ _ _ hs.symm
  have hold : ∀ b o, b < wr.heap.size → b ≠ N → W.cell? ⟨b, o, none⟩ = wr.cell? ⟨b, o, none⟩ := fun b o hb hn => by
    rw [hW, World.cell?_alloc_past _ _ _ (by rw [hs]; exact hb), World.cell?_setCell_other]
    intro e; injection e with e1; exact hn e1.symm
  have holdf : ∀ b o, b < wr.heap.size → W.frozen? ⟨b, o, none⟩ = wr.frozen? ⟨b, o, none⟩ := fun b o hb => by
    rw [hW, World.frozen?_alloc_past _ _ _ (by rw [hs]; exact hb), World.frozen?_setCell]
  have harr : W.rowIs N 26 n (fun i => if i < k + 1 then pb ((L ++ [wr.heap.size]).getD i 0) else .pointer none) := by
    rw [hW]
    refine ((h.arr.set k _).alloc _).congr (fun i hi => ?_)
    show (if i = k then _ else _) = _
    by_cases e : i = k
    · subst e
      rw [if_pos rfl, if_pos (by omega), ← h.len, getD_snoc_eq]
    · rw [if_neg e]
      by_cases e2 : i < k
      · rw [if_pos e2, if_pos (by omega), getD_snoc_lt (by rw [h.len]; exact e2)]
      · rw [if_neg e2, if_neg (by omega)]
  have hbr : wr.heap.size ∉ L := fun e => by have := h.hi _ e; omega
  have hlk : Linked W c (N + 1) L := h.linked.carry (hold _ _ (by omega) (by omega)) (hold _ _ (by omega) (by omega))
    (fun b hb => hold _ _ (h.hi b hb) (by have := h.lo b hb; omega)) (fun b hb => hold _ _ (h.hi b hb) (by have := h.lo b hb; omega))
  have hfr : Free W ((N + 1) :: wr.heap.size :: L) := fun b hb o => by
    simp only [List.mem_cons] at hb
    rcases hb with rfl | rfl | hb
    · rw [holdf _ _ (by omega)]; exact h.free _ (by simp) o
    · exact hnewf o
    · rw [holdf _ _ (h.hi b hb)]; exact h.free _ (by simp [hb]) o
  have hbW : Below N w W := by rw [hW]; exact (h.below.setCell (Nat.le_refl _) _).alloc (by rw [hs]; omega) _
  have hx : ∃ x, W.cell? ⟨wr.heap.size, 14 + 2 * c, none⟩ = some x := by rw [hnew]; rcases hc with rfl | rfl <;> exact ⟨_, rfl⟩
  have hy : ∃ x, W.cell? ⟨wr.heap.size, 15 + 2 * c, none⟩ = some x := by rw [hnew]; rcases hc with rfl | rfl <;> exact ⟨_, rfl⟩
  have ho : W.cell? ⟨wr.heap.size, 14 + 2 * (1 - c), none⟩ = some (.pointer none) ∧ W.cell? ⟨wr.heap.size, 15 + 2 * (1 - c), none⟩ = some (.pointer none) := by
    rw [hnew, hnew]; rcases hc with rfl | rfl <;> exact ⟨rfl, rfl⟩
  have hq : W.cell? ⟨wr.heap.size, 12, none⟩ = some (.int .u64 (Z k)) := by rw [hnew]; rfl
  obtain ⟨x, hx⟩ := hx
  obtain ⟨y, hy⟩ := hy
  rw [← hW]
  clear hW hnew
  refine (push_any c (N + 1) wr.heap.size L W hc x y h.nodup (by omega) (fun e => by have := h.lo _ e; omega) hbr hlk hfr hx hy).mono ?_
  rintro e w' ⟨rfl, hl, ht⟩
  have hlen : (L ++ [wr.heap.size]).length = k + 1 := by simp [h.len]
  have hmem : ∀ b, b ∈ L ++ [wr.heap.size] → N + 2 ≤ b ∧ b < wr.heap.size + 1 := fun b hb => by
    simp only [List.mem_append, List.mem_singleton] at hb
    rcases hb with hb | rfl
    · exact ⟨h.lo b hb, by have := h.hi b hb; omega⟩
    · exact ⟨hsz, by omega⟩
  refine ⟨rfl, hlen, ?_, fun b hb => (hmem b hb).1, fun b hb => by rw [ht.size, hWs]; exact (hmem b hb).2, by rw [ht.size, hWs]; omega, ?_, hl, ?_, fun i hi => ?_, fun i hi => ?_, ?_⟩
  · rw [List.nodup_append]
    exact ⟨h.nodup, by simp, fun a ha b hb => by simp only [List.mem_singleton] at hb; subst hb; exact fun e => hbr (e ▸ ha)⟩
  · exact harr.of_block (ht.block N (by omega) (fun e => by have := (hmem N e).1; omega))
  · intro b hb o
    rw [ht.frozen]
    refine hfr b ?_ o
    simp only [List.mem_cons, List.mem_append, List.not_mem_nil, or_false] at hb ⊢
    rcases hb with hb | hb | hb <;> simp [hb]
  · rw [ht.cell _ _ ?_ (.inr (by omega))]
    · by_cases e : i < k
      · rw [getD_snoc_lt (by rw [h.len]; exact e), hold _ _ (h.hi _ (getD_mem (by rw [h.len]; exact e))) (by have := h.lo _ (getD_mem (L := L) (i := i) (by rw [h.len]; exact e)); omega)]
        exact h.seq i e
      · obtain rfl : i = L.length := by rw [h.len]; omega
        rw [getD_snoc_eq, h.len]; exact hq
    · have := (hmem _ (getD_mem (L := L ++ [wr.heap.size]) (i := i) (by omega))).1; omega
  · have hne : (L ++ [wr.heap.size]).getD i 0 ≠ N + 1 := by have := (hmem _ (getD_mem (L := L ++ [wr.heap.size]) (i := i) (by omega))).1; omega
    rw [ht.cell _ _ hne (.inr (by rcases hc with rfl | rfl <;> omega)), ht.cell _ _ hne (.inr (by rcases hc with rfl | rfl <;> omega))]
    by_cases e : i < k
    · have hm := getD_mem (L := L) (i := i) (by rw [h.len]; exact e)
      rw [getD_snoc_lt (by rw [h.len]; exact e), hold _ _ (h.hi _ hm) (by have := h.lo _ hm; omega), hold _ _ (h.hi _ hm) (by have := h.lo _ hm; omega)]
      exact h.oth i e
    · obtain rfl : i = L.length := by rw [h.len]; omega
      rw [getD_snoc_eq]; exact ho
  · exact hbW.trans (ht.below (by omega) (fun b hb => by have := (hmem b hb).1; omega))

end Go.Proofs.Ybulkchec
