/- LAW PushRemove: one request more is pushed and removed again. No walk of the law's text here: the two calls, with what each leaves. -/
import Derived.Test.YbulkchecOrd
import Derived.Test.YbulkchecRemove
namespace Go.Proofs.Ybulkchec
open Go.RowKit
set_option linter.unusedVariables false

/-- With the extra request ex pushed behind L. -/
structure Aft (w : World) (N c n : Nat) (L : List Nat) (ex : Nat) (w1 : World) : Prop where
  len : L.length = n
  linked : Linked w1 c (N + 1) (L ++ [ex])
  free : Free w1 ((N + 1) :: (L ++ [ex]))
  nodup : (L ++ [ex]).Nodup
  lo : ∀ b, b ∈ L ++ [ex] → N + 2 ≤ b
  size : N + 2 ≤ w1.heap.size
  arr : w1.rowIs N 26 n (fun i => pb (L.getD i 0))
  below : Below N w w1

theorem extra_push {w : World} {N c n : Nat} {Z : Nat → Int} {L : List Nat} {wr : World} (hc : c = 0 ∨ c = 1) (ci : Int) (hci : ci = (c : Int)) (z : Int) (h : Ord w N c n n Z L wr) :
    Calls Yba.prog 9 #[pb (N + 1), pb wr.heap.size, .int .u8 ci] (wr.alloc (.cells (reqCells z) 44)) fun e w' => e = .returned (.tuple #[]) ∧ Aft w N c n L wr.heap.size w' := by
  subst hci
  have hsz := h.size
  obtain ⟨W, hW⟩ : ∃ W, W = wr.alloc (.cells (reqCells z) 44) := ⟨_, rfl⟩
  have hWs : W.heap.size = wr.heap.size + 1 := by rw [hW]; simp
  have hnew : ∀ o, W.cell? ⟨wr.heap.size, o, none⟩ = (reqCells z)[o]? := fun o => by rw [hW]; exact World.cell?_alloc_at _ _ _ _ rfl
  have hnewf : ∀ o, W.frozen? ⟨wr.heap.size, o, none⟩ = false := fun o => by rw [hW]; exact World.frozen?_alloc_at _ _ _ _ rfl
  have hold : ∀ b o, b < wr.heap.size → W.cell? ⟨b, o, none⟩ = wr.cell? ⟨b, o, none⟩ := fun b o hb => by rw [hW, World.cell?_alloc_past _ _ _ hb]
  have holdf : ∀ b o, b < wr.heap.size → W.frozen? ⟨b, o, none⟩ = wr.frozen? ⟨b, o, none⟩ := fun b o hb => by rw [hW, World.frozen?_alloc_past _ _ _ hb]
  have harr : W.rowIs N 26 n (fun i => pb (L.getD i 0)) := by
    rw [hW]
    exact (h.arr.alloc _).congr (fun i hi => by rw [if_pos hi])
  have hbr : wr.heap.size ∉ L := fun e => by have := h.hi _ e; omega
  have hlk : Linked W c (N + 1) L := h.linked.carry (hold _ _ (by omega)) (hold _ _ (by omega)) (fun b hb => hold _ _ (h.hi b hb)) (fun b hb => hold _ _ (h.hi b hb))
  have hfr : Free W ((N + 1) :: wr.heap.size :: L) := fun b hb o => by
    simp only [List.mem_cons] at hb
    rcases hb with rfl | rfl | hb
    · rw [holdf _ _ (by omega)]; exact h.free _ (by simp) o
    · exact hnewf o
    · rw [holdf _ _ (h.hi b hb)]; exact h.free _ (by simp [hb]) o
  have hbW : Below N w W := by rw [hW]; exact h.below.alloc (by omega) _
  have hx : ∃ x, W.cell? ⟨wr.heap.size, 14 + 2 * c, none⟩ = some x := by rw [hnew]; rcases hc with rfl | rfl <;> exact ⟨_, rfl⟩
  have hy : ∃ x, W.cell? ⟨wr.heap.size, 15 + 2 * c, none⟩ = some x := by rw [hnew]; rcases hc with rfl | rfl <;> exact ⟨_, rfl⟩
  obtain ⟨x, hx⟩ := hx
  obtain ⟨y, hy⟩ := hy
  rw [← hW]
  clear hW hnew
  refine (push_any c (N + 1) wr.heap.size L W hc x y h.nodup (by omega) (fun e => by have := h.lo _ e; omega) hbr hlk hfr hx hy).mono ?_
  rintro e w' ⟨rfl, hl, ht⟩
  have hlo : ∀ b, b ∈ L ++ [wr.heap.size] → N + 2 ≤ b := fun b hb => by
    simp only [List.mem_append, List.mem_singleton] at hb
    rcases hb with hb | rfl
    · exact h.lo b hb
    · exact hsz
  refine ⟨rfl, h.len, hl, ?_, ?_, hlo, by rw [ht.size, hWs]; omega, ?_, ?_⟩
  · intro b hb o
    rw [ht.frozen]
    refine hfr b ?_ o
    simp only [List.mem_cons, List.mem_append, List.not_mem_nil, or_false] at hb ⊢
    rcases hb with hb | hb | hb <;> simp [hb]
  · rw [List.nodup_append]
    exact ⟨h.nodup, by simp, fun a ha b hb => by simp only [List.mem_singleton] at hb; subst hb; exact fun e => hbr (e ▸ ha)⟩
  · exact harr.of_block (ht.block N (by omega) (fun e => by have := hlo N e; omega))
  · exact hbW.trans (ht.below (by omega) (fun b hb => by have := hlo b hb; omega))

theorem extra_remove {w : World} {N c n : Nat} {L : List Nat} {ex : Nat} {w1 : World} (hc : c = 0 ∨ c = 1) (ci : Int) (hci : ci = (c : Int)) (h : Aft w N c n L ex w1) :
    Calls Yba.prog 11 #[pb (N + 1), pb ex, .int .u8 ci] w1 fun e w' => e = .returned (.tuple #[]) ∧ Linked w' c (N + 1) L ∧
      w'.cell? ⟨ex, 14 + 2 * c, none⟩ = some (.pointer none) ∧ w'.cell? ⟨ex, 15 + 2 * c, none⟩ = some (.pointer none) ∧ w'.rowIs N 26 n (fun i => pb (L.getD i 0)) ∧ Below N w w' := by
  subst hci
  have hsz := h.size
  have hex : ex < w1.heap.size := by
    have := h.linked.prev L.length (by simp)
    rw [getD_snoc_eq] at this
    exact World.block_lt_of_cell? w1 _ this
  refine (remove_last c (N + 1) ex L w1 hc h.nodup (fun e => by have := h.lo _ e; omega) h.linked h.free).mono ?_
  rintro e w' ⟨rfl, w2, ob, m, rfl, hl, hx, hy, ht⟩
  have hs2 : w2.heap.size = w1.heap.size := ht.size
  have hlt : ∀ b, b ∈ L → b < w2.heap.size := fun b hb => by
    obtain ⟨i, hi, e⟩ := List.mem_iff_getElem.1 hb
    have := hl.prev i hi
    rw [getD_at hi, e] at this
    exact World.block_lt_of_cell? w2 _ this
  have hold : ∀ b o, b < w2.heap.size → ((w2.alloc ob).drewN m).cell? ⟨b, o, none⟩ = w2.cell? ⟨b, o, none⟩ := fun b o hb => by rw [World.cell?_drewN, World.cell?_alloc_past _ _ _ hb]
  refine ⟨rfl, hl.carry (hold _ _ (by omega)) (hold _ _ (by omega)) (fun b hb => hold _ _ (hlt b hb)) (fun b hb => hold _ _ (hlt b hb)), ?_, ?_, ?_, ?_⟩
  · rw [hold _ _ (by omega)]; exact hx
  · rw [hold _ _ (by omega)]; exact hy
  · have h1 : w2.rowIs N 26 n (fun i => pb (L.getD i 0)) := h.arr.of_block (ht.block N (by omega) (fun e => by have := h.lo N e; omega))
    exact (h1.alloc ob).of_block rfl
  · have h1 : Below N w w2 := h.below.trans (ht.below (by omega) (fun b hb => by have := h.lo b hb; omega))
    exact (h1.alloc (by omega) ob).trans ⟨rfl, rfl, rfl, Nat.le_refl _, fun _ _ => rfl⟩

theorem Aft.drewN {w : World} {N c n : Nat} {L : List Nat} {ex : Nat} {w1 : World} (h : Aft w N c n L ex w1) (m : Nat) : Aft w N c n L ex (w1.drewN m) :=
  ⟨h.len, h.linked.carry rfl rfl (fun _ _ => rfl) (fun _ _ => rfl), h.free, h.nodup, h.lo, h.size, h.arr.of_block rfl, h.below.trans ⟨rfl, rfl, rfl, Nat.le_refl _, fun _ _ => rfl⟩⟩

end Go.Proofs.Ybulkchec
