/- ROWS OF WIDE ELEMENTS (contacts of 24 cells, ids of 20, pointers of 1) AND THE BUILTIN append OF ONE ELEMENT TO SUCH A ROW. -/
import Derived.Test.YbulkchfsFields
import Derived.Deep.AppendSrc
namespace Go.Proofs.Ybulkchfs
open Go.RowKit Go.Lib
set_option linter.unusedVariables false
set_option linter.unusedSimpArgs false

/-- n elements of sz cells each at block b, the j-th being V j. -/
structure RowW (w : World) (sz b n cap : Nat) (V : Nat → List Value) : Prop where
  le : n ≤ cap
  big : cap ≤ 9223372036854775807
  len : ∀ j, j < n → (V j).length = sz
  lies : ∀ j, j < n → w.rangeAt b (j * sz) (V j)
  here : ∀ o, o < cap * sz → (w.cell? ⟨b, o, none⟩).isSome = true
  thaw : ∀ o, o < cap * sz → w.frozen? ⟨b, o, none⟩ = false

theorem range_of_heap {w w' : World} {b : Nat} (h : w'.heap[b]? = w.heap[b]?) {o : Nat} {cs : List Value} (hr : w.rangeAt b o cs) : w'.rangeAt b o cs := fun j v hj => (cell_of_heap h _).trans (hr j v hj)

theorem RowW.keep {w w' : World} {sz b n cap : Nat} {V : Nat → List Value} (h : RowW w sz b n cap V) (hb : 0 < cap → w'.heap[b]? = w.heap[b]?) : RowW w' sz b n cap V :=
  ⟨h.le, h.big, h.len, fun j hj => range_of_heap (hb (by have := h.le; omega)) (h.lies j hj),
   fun o ho => by rw [cell_of_heap (hb (by rcases Nat.eq_zero_or_pos cap with h0 | h0; rw [h0] at ho; omega; exact h0))]; exact h.here o ho,
   fun o ho => by rw [frozen_of_heap (hb (by rcases Nat.eq_zero_or_pos cap with h0 | h0; rw [h0] at ho; omega; exact h0))]; exact h.thaw o ho⟩
theorem RowW.lt {w : World} {sz b n cap : Nat} {V : Nat → List Value} (h : RowW w sz b n cap V) (hs : 0 < sz) (hc : 0 < cap) : b < w.heap.size := by
  obtain ⟨v, hv⟩ := Option.isSome_iff_exists.1 (h.here 0 (Nat.mul_pos hc hs))
  exact block_lt_of_cell hv
theorem RowW.nil (w : World) (sz b : Nat) (V : Nat → List Value) : RowW w sz b 0 0 V := ⟨Nat.le_refl _, by omega, fun j hj => absurd hj (by omega), fun j hj => absurd hj (by omega), fun o ho => absurd ho (by omega), fun o ho => absurd ho (by omega)⟩
theorem RowW.arr {w : World} {sz b n cap : Nat} {V : Nat → List Value} (h : RowW w sz b n cap V) {j : Nat} (hj : j < n) : arr? w sz b (j * sz) = some (V j) := arr?_of (h.len j hj) (h.lies j hj)

/-- x put behind the n elements. -/
def push (V : Nat → List Value) (n : Nat) (x : List Value) : Nat → List Value := fun j => if j = n then x else V j

theorem mul_le_of {j n sz : Nat} (h : j < n) : j * sz + sz ≤ n * sz := by
  have := Nat.mul_le_mul_right sz (show j + 1 ≤ n by omega)
  rw [Nat.succ_mul] at this
  exact this

theorem append_rowW (w : World) (t e ty : TypeId) (z : Value) (sz bytes : Nat) (ht : Yba.prog.underlying t = some (.slice e)) (hinfo : (Yba.prog.info? e).map (fun i => (i.zero, i.size, i.bytes)) = some (some z, sz, bytes)) (hzc : z.cells.size = sz) (hsz : 0 < sz)
    (b n cap vb vc : Nat) (V : Nat → List Value) (x : List Value) (hR : RowW w sz b n cap V) (hxl : x.length = sz) (hx1 : ∀ v ∈ x, v.oneCell' = true) (hsrc : w.rangeAt vb 0 x) (hbig : (n + 1) * bytes ≤ 140737488355328) (hn63 : n + 1 ≤ 1000000) :
    ∃ w' b' cap', (Builtin.append_ #[t, t] ty #[slV b n cap, .slice (some ⟨vb, 0, none⟩) 1 vc]).run Yba.prog w = .ok (.slice (some ⟨b', 0, none⟩) (n + 1) cap') w' ∧ RowW w' sz b' (n + 1) cap' (push V n x) ∧ (b' = b ∧ 0 < cap ∨ b' = w.heap.size) ∧ b' < w'.heap.size ∧ Chg (fun k => k = b ∧ 0 < cap) w w' := by
  obtain ⟨i0, hi0, hz0, hzs, hzb⟩ := info_parts hinfo
  have hSrc : Src Yba.prog i0.size t (.slice (some ⟨vb, 0, none⟩) 1 vc) 1 x w := by
    rw [hzs]
    exact Src.ofSlice w ht ⟨vb, 0, none⟩ 1 vc x (by rw [hxl]; omega) (fun j u hj => by rw [Addr.add_lit]; exact hsrc j u hj) hx1
  have hlen : ∀ j, j < n + 1 → (push V n x j).length = sz := fun j hj => by
    unfold push
    split
    · exact hxl
    · exact hR.len j (by omega)
  by_cases hroom : n + 1 ≤ cap
  · have hb : b < w.heap.size := hR.lt hsz (by omega)
    have hsl : slV b n cap = .slice (some ⟨b, 0, none⟩) n cap := by unfold slV; rw [if_neg (by omega)]
    have hcap : n * sz + sz ≤ cap * sz := mul_le_of (show n < cap by omega)
    have hrun := run_append_room_src w t t ty e i0 ht hi0 b 0 n cap _ 1 x hSrc hroom (fun j hj => by rw [hzs, Nat.zero_add]; exact hR.here _ (by omega)) (fun j hj => by rw [hzs, Nat.zero_add]; exact hR.thaw _ (by omega))
    rw [hzs, Nat.zero_add] at hrun
    refine ⟨_, b, cap, by rw [hsl]; exact hrun, ⟨hroom, hR.big, hlen, fun j hj => ?_, fun o ho => ?_, fun o ho => ?_⟩, .inl ⟨rfl, by omega⟩, ?_, (Chg.refl _ w).setCells _ _ _ (fun _ => ⟨rfl, by omega⟩)⟩
    · intro q v hq
      rw [cell_setCells _ _ _ _ (fun q hq => hR.here _ (by omega)), hxl]
      unfold push at hq
      split at hq
      · rename_i he
        subst he
        have hq' : q < x.length := (List.getElem?_eq_some_iff.1 hq).1
        rw [if_pos (by omega), show j * sz + q - j * sz = q by omega]; exact hq
      · rename_i hne
        have hj' : j < n := by omega
        have hq' : q < sz := by have := (List.getElem?_eq_some_iff.1 hq).1; rw [hR.len j hj'] at this; exact this
        have := mul_le_of (sz := sz) hj'
        rw [if_neg (by omega)]
        exact hR.lies j hj' q v hq
    · exact isSome_setCells b _ _ _ (fun q hq => hR.here _ (by omega)) _ (hR.here o ho)
    · rw [World.frozen?_setCells]; exact hR.thaw o ho
    · exact Nat.lt_of_lt_of_le hb ((Chg.refl (fun _ => True) w).setCells _ _ _ (fun _ => trivial)).size
  · have hle := hR.le
    have hcn : cap = n := by omega
    subst hcn
    obtain ⟨olds, holds⟩ : ∃ olds : List Value, olds = (List.range (cap * sz)).map fun o => (w.cell? ⟨b, o, none⟩).getD undef := ⟨_, rfl⟩
    have hol : olds.length = cap * sz := by rw [holds]; simp
    have hoa : ∀ o, o < cap * sz → olds[o]? = w.cell? ⟨b, o, none⟩ := fun o ho => by
      obtain ⟨v, hv⟩ := Option.isSome_iff_exists.1 (hR.here o ho)
      rw [holds]; simp [ho, hv]
    have hfirst : (Builtin.firstCells i0.size cap (slV b cap cap)).run Yba.prog w.drew = .ok olds.toArray w.drew := by
      rw [hzs]
      unfold slV
      by_cases h0 : cap = 0
      · subst h0
        have hnil : olds = [] := List.length_eq_zero_iff.1 (by rw [hol]; omega)
        rw [if_pos rfl, hnil]
        exact run_firstCells_none w.drew sz 0 0 0
      · rw [if_neg h0]
        refine run_firstCells_some w.drew sz cap ⟨b, 0, none⟩ cap cap olds hol (fun o v ho => ?_)
        rw [Addr.add_lit, Nat.zero_add]
        have ho' : o < cap * sz := by rw [← hol]; exact (List.getElem?_eq_some_iff.1 ho).1
        rw [hoa o ho'] at ho
        exact ho
    have hG1 := grownCap_ge w (cap + 1) cap e
    have hG2 : grownCap w (cap + 1) cap e ≤ 9223372036854775807 := by
      have := grownCap_le_maxLen w (cap + 1) cap e (by unfold maxLen; omega)
      unfold maxLen at this
      omega
    have hrun := run_append_grow_src w t t ty e i0 z ht hi0 hz0 (if cap = 0 then none else some ⟨b, 0, none⟩) cap cap olds hfirst _ 1 x hSrc (by omega) (by omega) (by rw [hzb]; exact growslice_fits (by omega) hbig)
    obtain ⟨G, hG⟩ : ∃ G, G = grownCap w (cap + 1) cap e := ⟨_, rfl⟩
    rw [← hG] at hrun hG1 hG2
    obtain ⟨ROW, hROW⟩ : ∃ ROW : Array Value, ROW = (olds ++ x).toArray ++ Builtin.zeroCells z.cells (G - (cap + 1)) := ⟨_, rfl⟩
    rw [← hROW] at hrun
    have hgz : ∀ k, (Builtin.zeroCells z.cells k).size = k * sz := fun k => by rw [← hzc]; simp [Builtin.zeroCells]
    have hRl : ROW.size = G * sz := by
      rw [hROW, Array.size_append, hgz, List.size_toArray, List.length_append, hol, hxl, ← Nat.succ_mul, ← Nat.add_mul]
      have : cap.succ + (G - (cap + 1)) = G := by omega
      rw [this]
    have hR0 : ∀ o, o < cap * sz → ROW[o]? = w.cell? ⟨b, o, none⟩ := fun o ho => by
      rw [hROW, Array.getElem?_append_left (by simp [hol, hxl]; omega), List.getElem?_toArray, List.getElem?_append_left (by omega)]
      exact hoa o ho
    have hR1 : ∀ q, q < sz → ROW[cap * sz + q]? = x[q]? := fun q hq => by
      rw [hROW, Array.getElem?_append_left (by simp [hol, hxl]; omega), List.getElem?_toArray, List.getElem?_append_right (by omega), hol]
      have : cap * sz + q - cap * sz = q := by omega
      rw [this]
    refine ⟨_, w.heap.size, G, hrun, ⟨hG1, hG2, hlen, fun j hj => ?_, fun o ho => ?_, fun o ho => ?_⟩, .inr rfl, by simp, (Chg.refl _ w).drew.alloc _⟩
    · intro q v hq
      rw [World.cell?_alloc_at (w := w.drew) ROW _ w.heap.size _ rfl]
      unfold push at hq
      split at hq
      · rename_i he
        subst he
        have hq' : q < x.length := (List.getElem?_eq_some_iff.1 hq).1
        rw [hR1 q (by omega)]; exact hq
      · rename_i hne
        have hj' : j < cap := by omega
        have hq' : q < sz := by have := (List.getElem?_eq_some_iff.1 hq).1; rw [hR.len j hj'] at this; exact this
        have := mul_le_of (sz := sz) hj'
        rw [hR0 _ (by omega)]
        exact hR.lies j hj' q v hq
    · rw [World.cell?_alloc_at (w := w.drew) ROW _ w.heap.size _ rfl, Array.getElem?_eq_getElem (by omega)]; rfl
    · exact World.frozen?_alloc_at (w := w.drew) ROW _ w.heap.size _ rfl
end Go.Proofs.Ybulkchfs
