/- WHAT MAY CHANGE ('Chg'), THE ROW OF ENTRIES ('Row'), AND ONE STATEMENT FOR slices.Insert. -/
import Derived.Test.YbulkchfsInsert
namespace Go.Proofs.Ybulkchfs
open Go.RowKit Go.Lib
set_option linter.unusedVariables false
set_option linter.unusedSimpArgs false

/-- Of what was there, only the blocks of S may differ. -/
structure Chg (S : Nat → Prop) (w w' : World) : Prop where
  os : w'.os = w.os
  tape : w'.tape = w.tape
  output : w'.output = w.output
  size : w.heap.size ≤ w'.heap.size
  block : ∀ k, k < w.heap.size → ¬ S k → w'.heap[k]? = w.heap[k]?

theorem Chg.refl (S : Nat → Prop) (w : World) : Chg S w w := ⟨rfl, rfl, rfl, Nat.le_refl _, fun _ _ _ => rfl⟩
theorem Chg.trans {S S' : Nat → Prop} {a b c : World} (h : Chg S a b) (h' : Chg S' b c) (hs : ∀ k, k < a.heap.size → S' k → S k) : Chg S a c :=
  ⟨h'.os.trans h.os, h'.tape.trans h.tape, h'.output.trans h.output, Nat.le_trans h.size h'.size, fun k hk hn => (h'.block k (Nat.lt_of_lt_of_le hk h.size) (fun e => hn (hs k hk e))).trans (h.block k hk hn)⟩
theorem Chg.ofBelow {S : Nat → Prop} {B : Nat} {w w' : World} (h : Below B w w') (hS : ∀ k, k < w.heap.size → B ≤ k → S k) : Chg S w w' :=
  ⟨h.os, h.tape, h.output, h.size, fun k hk hn => h.block k (Nat.lt_of_not_le fun e => hn (hS k hk e))⟩
theorem Chg.ofNew {S : Nat → Prop} {w w' : World} (h : Below w.heap.size w w') : Chg S w w' := .ofBelow h (fun k hk hk' => absurd hk' (by omega))
theorem Chg.below {S : Nat → Prop} {B : Nat} {w w' : World} (h : Chg S w w') (hB : B ≤ w.heap.size) (hS : ∀ k, k < B → ¬ S k) : Below B w w' :=
  ⟨h.os, h.tape, h.output, h.size, fun k hk => h.block k (Nat.lt_of_lt_of_le hk hB) (hS k hk)⟩
theorem Chg.wide {S S' : Nat → Prop} {w w' : World} (h : Chg S w w') (hs : ∀ k, k < w.heap.size → S k → S' k) : Chg S' w w' :=
  ⟨h.os, h.tape, h.output, h.size, fun k hk hn => h.block k hk (fun e => hn (hs k hk e))⟩
theorem Chg.drew {S : Nat → Prop} {a w : World} (h : Chg S a w) : Chg S a w.drew := ⟨h.os, h.tape, h.output, h.size, h.block⟩
theorem Chg.alloc {S : Nat → Prop} {a w : World} (h : Chg S a w) (o : Obj) : Chg S a (w.alloc o) :=
  h.trans (.ofNew ((Below.refl _ w).alloc (Nat.le_refl _) o)) (fun _ _ e => e)
theorem Chg.setCell {S : Nat → Prop} {a w : World} (h : Chg S a w) (p : Addr) (v : Value) (hp : p.block < a.heap.size → S p.block) : Chg S a (w.setCell p v) :=
  ⟨h.os, h.tape, h.output, by rw [World.size_setCell]; exact h.size, fun k hk hn => (Below.heap_setCell _ _ _ _ (by intro e; subst e; exact hn (hp hk))).trans (h.block k hk hn)⟩
theorem Chg.setA {S : Nat → Prop} {a w : World} (h : Chg S a w) (b o : Nat) (cs : List Value) (hp : b < a.heap.size → S b) : Chg S a (setA w b o cs) :=
  ⟨(os_setA cs w b o).1.trans h.os, (os_setA cs w b o).2.1.trans h.tape, (os_setA cs w b o).2.2.trans h.output, by rw [size_setA]; exact h.size, fun k hk hn => (heap_setA cs w b o k (by intro e; subst e; exact hn (hp hk))).trans (h.block k hk hn)⟩

theorem cell_of_heap {w w' : World} {b : Nat} (h : w'.heap[b]? = w.heap[b]?) (o : Nat) : w'.cell? ⟨b, o, none⟩ = w.cell? ⟨b, o, none⟩ := by simp only [World.cell?, h]
theorem frozen_of_heap {w w' : World} {b : Nat} (h : w'.heap[b]? = w.heap[b]?) (o : Nat) : w'.frozen? ⟨b, o, none⟩ = w.frozen? ⟨b, o, none⟩ := by simp only [World.frozen?, h]
theorem arr_of_heap {w w' : World} {b : Nat} (h : w'.heap[b]? = w.heap[b]?) (n o : Nat) : arr? w' n b o = arr? w n b o := arr?_congr fun i _ => cell_of_heap h _
theorem can_of_heap {w w' : World} {b : Nat} (h : w'.heap[b]? = w.heap[b]?) (n o : Nat) : can? w' n b o = can? w n b o := can?_congr (fun i _ => by rw [cell_of_heap h]) (fun i _ => frozen_of_heap h _)

/-- The row of n pointers to the blocks E 0, E 1, .. at block bs. -/
structure Row (w : World) (bs n cap : Nat) (E : Nat → Nat) : Prop where
  le : n ≤ cap
  big : cap ≤ 9223372036854775807
  ptr : ∀ i, i < n → w.cell? ⟨bs, i, none⟩ = some (pb (E i))
  here : ∀ i, i < cap → (w.cell? ⟨bs, i, none⟩).isSome = true
  thaw : ∀ i, i < cap → w.frozen? ⟨bs, i, none⟩ = false

theorem Row.keep {w w' : World} {bs n cap : Nat} {E : Nat → Nat} (h : Row w bs n cap E) (hb : 0 < cap → w'.heap[bs]? = w.heap[bs]?) : Row w' bs n cap E :=
  ⟨h.le, h.big, fun i hi => (cell_of_heap (hb (by have := h.le; omega)) i).trans (h.ptr i hi), fun i hi => by rw [cell_of_heap (hb (by omega))]; exact h.here i hi, fun i hi => by rw [frozen_of_heap (hb (by omega))]; exact h.thaw i hi⟩
theorem Row.lt {w : World} {bs n cap : Nat} {E : Nat → Nat} (h : Row w bs n cap E) (hc : 0 < cap) : bs < w.heap.size := by
  obtain ⟨v, hv⟩ := Option.isSome_iff_exists.1 (h.here 0 hc)
  exact block_lt_of_cell hv

/-- The slice over such a row; nil where there is no row. -/
def slV (bs n cap : Nat) : Value := .slice (if cap = 0 then none else some ⟨bs, 0, none⟩) n cap

/-- e put in at p. -/
def insE (E : Nat → Nat) (p e : Nat) : Nat → Nat := fun i => if i < p then E i else if i = p then e else E (i - 1)

def rowL (E : Nat → Nat) (n : Nat) : List Value := (List.range n).map fun i => pb (E i)
theorem rowL_len (E : Nat → Nat) (n : Nat) : (rowL E n).length = n := by simp [rowL]
theorem rowL_at (E : Nat → Nat) (n j : Nat) : (rowL E n)[j]? = if j < n then some (pb (E j)) else none := by
  simp only [rowL, List.getElem?_map]
  by_cases h : j < n
  · simp [h]
  · simp [h]
theorem rowL_one (E : Nat → Nat) (n : Nat) : ∀ v ∈ rowL E n, v.oneCell' = true := by
  intro v hv
  simp only [rowL, List.mem_map] at hv
  obtain ⟨i, _, rfl⟩ := hv
  rfl
theorem Row.at {w : World} {bs n cap : Nat} {E : Nat → Nat} (h : Row w bs n cap E) : ∀ j v, (rowL E n)[j]? = some v → w.cell? ⟨bs, j, none⟩ = some v := fun j v hj => by
  rw [rowL_at] at hj
  split at hj
  · rename_i hlt
    injection hj with hj
    rw [← hj]; exact h.ptr j hlt
  · cases hj

theorem cell_setCells (b : Nat) (vs : List Value) (o : Nat) (w : World) (h : ∀ j, j < vs.length → (w.cell? ⟨b, o + j, none⟩).isSome = true) (k : Nat) :
    (w.setCells b o vs).cell? ⟨b, k, none⟩ = if o ≤ k ∧ k < o + vs.length then vs[k - o]? else w.cell? ⟨b, k, none⟩ := by
  split
  · rename_i hk
    have := World.cell?_setCells_in b vs o w h (k - o) (by omega)
    rw [show o + (k - o) = k by omega] at this
    rw [this, List.getElem?_eq_getElem]
  · rename_i hk
    exact World.cell?_setCells_out b vs o w ⟨b, k, none⟩ (fun _ _ => by show k < o ∨ o + vs.length ≤ k; omega)

theorem Chg.setCells {S : Nat → Prop} {a w : World} (h : Chg S a w) (b o : Nat) (cs : List Value) (hp : b < a.heap.size → S b) : Chg S a (w.setCells b o cs) := h.setA b o cs hp

theorem insert_any (w : World) (bs n cap p e vb vc : Nat) (E : Nat → Nat) (hp : p ≤ n) (hn : n ≤ 1024) (hR : Row w bs n cap E) (hvb : 0 < cap → vb ≠ bs)
    (hvs : w.cell? ⟨vb, 0, none⟩ = some (pb e)) (hsa : w.shape? vb = some (74, 1)) (hfa : w.frozen? ⟨vb, 0, none⟩ = false) (hfe : w.frozen? ⟨vb, 1, none⟩ = false) :
    Calls Yba.prog 51 #[slV bs n cap, .int .i64 p, .slice (some ⟨vb, 0, none⟩) 1 vc] w fun r w' =>
      ∃ bs' cap', r = .returned (slV bs' (n + 1) cap') ∧ Row w' bs' (n + 1) cap' (insE E p e) ∧ (bs' = bs ∧ 0 < cap ∨ bs' = w.heap.size) ∧ bs' < w'.heap.size ∧ Chg (fun k => k = bs ∧ 0 < cap) w w' := by
  have hle := hR.le
  by_cases hroom : n + 1 ≤ cap
  · have hb : bs < w.heap.size := hR.lt (by omega)
    have hsl : slV bs n cap = .slice (some ⟨bs, 0, none⟩) n cap := by unfold slV; rw [if_neg (by omega)]
    have hsl' : slV bs (n + 1) cap = .slice (some ⟨bs, 0, none⟩) (n + 1) cap := by unfold slV; rw [if_neg (by omega)]
    rw [hsl]
    by_cases hpn : p < n
    · obtain ⟨v0, hv0⟩ := Option.isSome_iff_exists.1 (hR.here 0 (by omega))
      obtain ⟨tB, kB, hsb, hkB, _⟩ := World.shape?_of_cell? hv0
      refine (ins_shift bs n cap p vb vc (rowL E n) (pb e) w hpn hroom hR.big (hvb (by omega)) (rowL_len _ _) hR.at (fun j hj => hR.here j (by omega)) (fun j hj => hR.thaw j (by omega)) hvs (rowL_one _ _) rfl 74 tB 1 kB hsa hsb (by simp at hkB; omega) hfa hfe).mono fun r w' ⟨h1, h2⟩ => ?_
      subst h2
      have hl1 : ((rowL E n).drop p).length = n - p := by rw [List.length_drop, rowL_len]
      have hs1 : ∀ k, k < cap → ((w.drew.setCells bs (p + 1) ((rowL E n).drop p)).cell? ⟨bs, k, none⟩).isSome = true := fun k hk => isSome_setCells bs _ _ w.drew (fun j hj => hR.here _ (by omega)) _ (hR.here k hk)
      have hc : ∀ k, k < n + 1 → (((w.drew.setCells bs (p + 1) ((rowL E n).drop p)).setCells bs p [pb e]).cell? ⟨bs, k, none⟩) = some (pb (insE E p e k)) := fun k hk => by
        rw [cell_setCells _ _ _ _ (fun j hj => by simp at hj; exact hs1 _ (by omega)), cell_setCells _ _ _ w.drew (fun j hj => hR.here _ (by omega)), hl1]
        simp only [List.length_cons, List.length_nil]
        unfold insE
        by_cases h1 : k < p
        · rw [if_neg (by omega), if_neg (by omega), if_pos h1]; exact hR.ptr k (by omega)
        · by_cases h2 : k = p
          · rw [if_pos (by omega), if_neg h1, if_pos h2, h2]; simp
          · rw [if_neg (by omega), if_pos (by omega), if_neg h1, if_neg h2, List.getElem?_drop, rowL_at, if_pos (by omega), show p + (k - (p + 1)) = k - 1 by omega]
      refine ⟨bs, cap, by rw [hsl']; exact h1, ⟨hroom, hR.big, hc, fun k hk => ?_, fun k hk => ?_⟩, .inl ⟨rfl, by omega⟩, ?_, ?_⟩
      · exact isSome_setCells bs _ _ _ (fun j hj => by simp at hj; exact hs1 _ (by omega)) _ (hs1 k hk)
      · rw [World.frozen?_setCells, World.frozen?_setCells]; exact hR.thaw k hk
      · exact Nat.lt_of_lt_of_le hb (((Chg.refl (fun _ => True) w).drew.setCells _ _ _ (fun _ => trivial)).setCells _ _ _ (fun _ => trivial)).size
      · exact ((Chg.refl _ w).drew.setCells _ _ _ (fun _ => ⟨rfl, by omega⟩)).setCells _ _ _ (fun _ => ⟨rfl, by omega⟩)
    · obtain rfl : p = n := by omega
      refine (ins_end_room bs p cap vb vc (pb e) w hroom hR.big (hR.here p (by omega)) (hR.thaw p (by omega)) hvs rfl).mono fun r w' ⟨h1, h2⟩ => ?_
      subst h2
      refine ⟨bs, cap, by rw [hsl']; exact h1, ⟨hroom, hR.big, fun k hk => ?_, fun k hk => ?_, fun k hk => ?_⟩, .inl ⟨rfl, by omega⟩, ?_, ?_⟩
      · rw [cell_setCells _ _ _ _ (fun j hj => by simp at hj; exact hR.here _ (by omega))]
        simp only [List.length_cons, List.length_nil]
        unfold insE
        by_cases h1 : k < p
        · rw [if_neg (by omega), if_pos h1]; exact hR.ptr k h1
        · rw [if_pos (by omega), if_neg h1, if_pos (by omega), show k - p = 0 by omega]; rfl
      · exact isSome_setCells bs _ _ _ (fun j hj => by simp at hj; exact hR.here _ (by omega)) _ (hR.here k hk)
      · rw [World.frozen?_setCells]; exact hR.thaw k hk
      · exact Nat.lt_of_lt_of_le hb ((Chg.refl (fun _ => True) w).setCells _ _ _ (fun _ => trivial)).size
      · exact (Chg.refl _ w).setCells _ _ _ (fun _ => ⟨rfl, by omega⟩)
  · have hG1 := grownCap_ge w (n + 1) cap 74
    have hG2 : grownCap w (n + 1) cap 74 ≤ 9223372036854775807 := by
      have := grownCap_le_maxLen w (n + 1) cap 74 (by unfold maxLen; omega)
      unfold maxLen at this
      omega
    obtain ⟨G, hG⟩ : ∃ G, G = grownCap w (n + 1) cap 74 := ⟨_, rfl⟩
    have hsl' : slV w.heap.size (n + 1) G = .slice (some ⟨w.heap.size, 0, none⟩) (n + 1) G := by unfold slV; rw [if_neg (by omega)]
    by_cases hpn : p < n
    · have hsl : slV bs n cap = .slice (some ⟨bs, 0, none⟩) n cap := by unfold slV; rw [if_neg (by omega)]
      rw [hsl]
      refine (ins_grow bs n cap p vb vc (rowL E n) (pb e) w hpn hle (by omega) (by omega) (rowL_len _ _) hR.at hvs (rowL_one _ _) rfl).mono fun r w' ⟨h1, h2⟩ => ?_
      rw [← hG] at h1 h2 hG1 hG2
      obtain ⟨ROW, hROW⟩ : ∃ ROW : Array Value, ROW = ((rowL E n).take p).toArray ++ Builtin.zeroCells (Value.pointer none).cells (n + 1 - p) ++ Builtin.zeroCells (Value.pointer none).cells (G - (n + 1)) := ⟨_, rfl⟩
      rw [← hROW] at h2
      have hl0 : ((rowL E n).take p).length = p := by rw [List.length_take, rowL_len]; omega
      have hRl : ROW.size = G := by
        rw [hROW]
        simp [Builtin.zeroCells, Value.cells, rowL_len]
        omega
      have hR0 : ∀ k, k < p → ROW[k]? = some (pb (E k)) := fun k hk => by
        rw [hROW, Array.append_assoc, Array.getElem?_append_left (by simp [rowL_len]; omega)]
        simp [List.getElem?_take, hk, rowL_at]
        omega
      subst h2
      have hl1 : ((rowL E n).drop p).length = n - p := by rw [List.length_drop, rowL_len]
      obtain ⟨w1, hw1⟩ : ∃ w1, w1 = (w.alloc (.cells ROW 74)).drew := ⟨_, rfl⟩
      rw [← hw1]
      have c1 : ∀ k, w1.cell? ⟨w.heap.size, k, none⟩ = ROW[k]? := fun k => by rw [hw1]; exact World.cell?_alloc_at (w := w) ROW _ w.heap.size k rfl
      have f1 : ∀ k, w1.frozen? ⟨w.heap.size, k, none⟩ = false := fun k => by rw [hw1]; exact World.frozen?_alloc_at (w := w) ROW _ w.heap.size k rfl
      have i1 : ∀ k, k < G → (w1.cell? ⟨w.heap.size, k, none⟩).isSome = true := fun k hk => by rw [c1, Array.getElem?_eq_getElem (by omega)]; rfl
      have i2 : ∀ k, k < G → ((w1.setCells w.heap.size p [pb e]).drew.cell? ⟨w.heap.size, k, none⟩).isSome = true := fun k hk => isSome_setCells _ _ _ w1 (fun j hj => by simp at hj; exact i1 _ (by omega)) _ (i1 k hk)
      have C1 : Chg (fun k => k = bs ∧ 0 < cap) w w1 := by rw [hw1]; exact ((Chg.refl _ w).alloc _).drew
      have CC : Chg (fun k => k = bs ∧ 0 < cap) w ((w1.setCells w.heap.size p [pb e]).drew.setCells w.heap.size (p + 1) ((rowL E n).drop p)) := ((C1.setCells _ _ _ (fun h => absurd h (by omega))).drew).setCells _ _ _ (fun h => absurd h (by omega))
      refine ⟨w.heap.size, G, by rw [hsl']; exact h1, ⟨hG1, hG2, fun k hk => ?_, fun k hk => ?_, fun k hk => ?_⟩, .inr rfl, ?_, CC⟩
      · rw [cell_setCells _ _ _ _ (fun j hj => i2 _ (by omega)), hl1]
        show (if _ then _ else (w1.setCells w.heap.size p [pb e]).cell? _) = _
        rw [cell_setCells _ _ _ _ (fun j hj => by simp at hj; exact i1 _ (by omega))]
        simp only [List.length_cons, List.length_nil]
        unfold insE
        by_cases h1 : k < p
        · rw [if_neg (by omega), if_neg (by omega), if_pos h1, c1]; exact hR0 k h1
        · by_cases h2 : k = p
          · rw [if_neg (by omega), if_pos (by omega), if_neg h1, if_pos h2, h2]; simp
          · rw [if_pos (by omega), if_neg h1, if_neg h2, List.getElem?_drop, rowL_at, if_pos (by omega), show p + (k - (p + 1)) = k - 1 by omega]
      · exact isSome_setCells _ _ _ _ (fun j hj => i2 _ (by omega)) _ (i2 k hk)
      · rw [World.frozen?_setCells]
        show (w1.setCells w.heap.size p [pb e]).frozen? _ = _
        rw [World.frozen?_setCells]; exact f1 k
      · have : w1.heap.size = w.heap.size + 1 := by rw [hw1]; simp
        have h3 := ((Chg.refl (fun _ => True) w1).setCells w.heap.size p [pb e] (fun _ => trivial)).drew.setCells w.heap.size (p + 1) ((rowL E n).drop p) (fun _ => trivial)
        have := h3.size
        omega
    · obtain rfl : p = n := by omega
      have h0 : cap = p := by omega
      subst h0
      refine (ins_end_grow _ cap cap vb vc (rowL E cap) (pb e) w hle (by omega) (by omega) (rowL_len _ _) (fun h => by by_cases e : cap = 0; exact e; rw [if_neg e] at h; cases h) (fun a ha j v hj => ?_) hvs rfl).mono fun r w' ⟨h1, h2⟩ => ?_
      · by_cases e : cap = 0
        · rw [if_pos e] at ha; cases ha
        · rw [if_neg e] at ha
          injection ha with ha
          subst ha
          rw [Addr.add_lit, Nat.zero_add]; exact hR.at j v hj
      rw [← hG] at h1 h2 hG1 hG2
      obtain ⟨ROW, hROW⟩ : ∃ ROW : Array Value, ROW = (rowL E cap ++ [pb e]).toArray ++ Builtin.zeroCells (Value.pointer none).cells (G - (cap + 1)) := ⟨_, rfl⟩
      rw [← hROW] at h2
      have hRl : ROW.size = G := by
        rw [hROW]
        simp [Builtin.zeroCells, Value.cells, rowL_len]
        omega
      have hR0 : ∀ k, k < cap + 1 → ROW[k]? = some (pb (insE E cap e k)) := fun k hk => by
        rw [hROW, Array.getElem?_append_left (by simp [rowL_len]; omega)]
        unfold insE
        by_cases h : k < cap
        · rw [List.getElem?_toArray, List.getElem?_append_left (by rw [rowL_len]; exact h), rowL_at, if_pos h, if_pos h]
        · obtain rfl : k = cap := by omega
          simp [List.getElem?_append, rowL_len]
      subst h2
      refine ⟨w.heap.size, G, by rw [hsl']; exact h1, ⟨hG1, hG2, fun k hk => ?_, fun k hk => ?_, fun k hk => ?_⟩, .inr rfl, by simp, (Chg.refl _ w).drew.alloc _⟩
      · rw [World.cell?_alloc_at (w := w.drew) ROW _ w.heap.size k rfl]; exact hR0 k hk
      · rw [World.cell?_alloc_at (w := w.drew) ROW _ w.heap.size k rfl, Array.getElem?_eq_getElem (by omega)]; rfl
      · exact World.frozen?_alloc_at (w := w.drew) ROW _ w.heap.size k rfl
end Go.Proofs.Ybulkchfs
