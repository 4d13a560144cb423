/- THE LOOKUP WITH ONE THING SET: an entry's state or sentAt, a field. -/
import Derived.Test.YbulkchfsFields
namespace Go.Proofs.Ybulkchfs
open Go.RowKit Go.Lib
set_option linter.unusedVariables false
set_option linter.unusedSimpArgs false

theorem Rep.setState {w : World} {bl : Nat} {L : St} (h : Rep w bl L) {i : Nat} (hi : i < L.n) (s : Int) : Rep (w.setCell ⟨L.E i, 24, none⟩ (.int .i64 s)) bl { L with S := upd L.S (L.E i) s } := by
  have ha := h.apart i hi
  have hb : ∀ k, k ≠ L.E i → (w.setCell ⟨L.E i, 24, none⟩ (.int .i64 s)).heap[k]? = w.heap[k]? := fun k hk => Below.heap_setCell _ _ _ _ hk
  refine { h with fields := (h.fields.keep (hb _ (Ne.symm ha.1))).other _ _ _ _ _ _, map := h.map.of_block (hb _ (Ne.symm ha.2.1)), row := h.row.keep (fun hc => hb _ (Ne.symm (ha.2.2 hc))), ent := fun j hj => ?_ }
  show EntAt _ (L.E j) (L.X (L.E j)) (upd L.S (L.E i) s (L.E j)) (L.D (L.E j)) (L.T (L.E j))
  by_cases e : L.E j = L.E i
  · rw [e, upd_same]
    have g := h.ent i hi
    exact ⟨(arr?_setCell _ _ _ _ _ _ _ (by omega)).trans g.contact, cell_set_same _ g.state, (cell_set_other _ (by omega)).trans g.depth, (cell_set_other _ (by omega)).trans g.sent, fun o => (World.frozen?_setCell _ _ _ _).trans (g.thaw o)⟩
  · rw [upd_ne _ _ e]
    exact (h.ent j hj).keep (hb _ e)
theorem Rep.setSent {w : World} {bl : Nat} {L : St} (h : Rep w bl L) {i : Nat} (hi : i < L.n) (s : Int) : Rep (w.setCell ⟨L.E i, 26, none⟩ (.int .i64 s)) bl { L with T := upd L.T (L.E i) s } := by
  have ha := h.apart i hi
  have hb : ∀ k, k ≠ L.E i → (w.setCell ⟨L.E i, 26, none⟩ (.int .i64 s)).heap[k]? = w.heap[k]? := fun k hk => Below.heap_setCell _ _ _ _ hk
  refine { h with fields := (h.fields.keep (hb _ (Ne.symm ha.1))).other _ _ _ _ _ _, map := h.map.of_block (hb _ (Ne.symm ha.2.1)), row := h.row.keep (fun hc => hb _ (Ne.symm (ha.2.2 hc))), ent := fun j hj => ?_ }
  show EntAt _ (L.E j) (L.X (L.E j)) (L.S (L.E j)) (L.D (L.E j)) (upd L.T (L.E i) s (L.E j))
  by_cases e : L.E j = L.E i
  · rw [e, upd_same]
    have g := h.ent i hi
    exact ⟨(arr?_setCell _ _ _ _ _ _ _ (by omega)).trans g.contact, (cell_set_other _ (by omega)).trans g.state, (cell_set_other _ (by omega)).trans g.depth, cell_set_same _ g.sent, fun o => (World.frozen?_setCell _ _ _ _).trans (g.thaw o)⟩
  · rw [upd_ne _ _ e]
    exact (h.ent j hj).keep (hb _ e)

theorem Rep.bl_other {w w' : World} {bl : Nat} {L : St} (h : Rep w bl L) (hb : ∀ k, k ≠ bl → w'.heap[k]? = w.heap[k]?) : MapIs w' L.br L.K ∧ Row w' L.bs L.n L.cap L.E ∧ ∀ i, i < L.n → EntAt w' (L.E i) (L.X (L.E i)) (L.S (L.E i)) (L.D (L.E i)) (L.T (L.E i)) :=
  ⟨h.map.of_block (hb _ (Ne.symm h.apart2.1)), h.row.keep (fun hc => hb _ (h.apart2.2 hc).1), fun i hi => (h.ent i hi).keep (hb _ (h.apart i hi).1)⟩
theorem set_bl (w : World) (bl o : Nat) (v : Value) : ∀ k, k ≠ bl → (w.setCell ⟨bl, o, none⟩ v).heap[k]? = w.heap[k]? := fun k hk => Below.heap_setCell _ _ _ _ hk

theorem Rep.setActive {w : World} {bl : Nat} {L : St} (h : Rep w bl L) (v : Int) : Rep (w.setCell ⟨bl, 70, none⟩ (.int .i64 v)) bl { L with active := v } :=
  have g := h.bl_other (set_bl w bl 70 (.int .i64 v))
  { h with fields := h.fields.setActive v, map := g.1, row := g.2.1, ent := g.2.2 }
theorem Rep.setOut {w : World} {bl : Nat} {L : St} (h : Rep w bl L) (v : Int) : Rep (w.setCell ⟨bl, 71, none⟩ (.int .i64 v)) bl { L with out := v } :=
  have g := h.bl_other (set_bl w bl 71 (.int .i64 v))
  { h with fields := h.fields.setOut v, map := g.1, row := g.2.1, ent := g.2.2 }
theorem Rep.setOver {w : World} {bl : Nat} {L : St} (h : Rep w bl L) (v : Bool) : Rep (w.setCell ⟨bl, 74, none⟩ (.bool v)) bl { L with over := v } :=
  have g := h.bl_other (set_bl w bl 74 (.bool v))
  { h with fields := h.fields.setOver v, map := g.1, row := g.2.1, ent := g.2.2 }
theorem Rep.setDrawn {w : World} {bl : Nat} {L : St} (h : Rep w bl L) (v : Int) : Rep (w.setCell ⟨bl, 44, none⟩ (.int .i64 v)) bl { L with drawn := v } :=
  have g := h.bl_other (set_bl w bl 44 (.int .i64 v))
  { h with fields := h.fields.setDrawn v, map := g.1, row := g.2.1, ent := g.2.2 }
theorem Rep.setAnswered {w : World} {bl : Nat} {L : St} (h : Rep w bl L) (v : Int) (hv : L.answered ≤ v) : Rep (w.setCell ⟨bl, 72, none⟩ (.int .i64 v)) bl { L with answered := v } :=
  have g := h.bl_other (set_bl w bl 72 (.int .i64 v))
  { h with fields := h.fields.setAnswered v, map := g.1, row := g.2.1, ent := g.2.2, stalls := ⟨h.stalls.1, Int.le_trans h.stalls.2 hv⟩, depths := fun i hi => ⟨(h.depths i hi).1, Int.le_trans (h.depths i hi).2 hv⟩ }
theorem Rep.setStalled {w : World} {bl : Nat} {L : St} (h : Rep w bl L) (v : Int) (hv : 0 ≤ v ∧ v ≤ L.answered) : Rep (w.setCell ⟨bl, 69, none⟩ (.int .i64 v)) bl { L with stalled := v } :=
  have g := h.bl_other (set_bl w bl 69 (.int .i64 v))
  { h with fields := h.fields.setStalled v, map := g.1, row := g.2.1, ent := g.2.2, stalls := hv }

/-! ### A slice of one contact, of one id -/
def bsC (parts : Array (Nat × Value)) : Sem Value := Instr.buildSlice 59 1 parts
theorem bsC_eq (p : Array (Nat × Value)) : Instr.buildSlice 59 1 p = bsC p := rfl
theorem build_contacts (F : Nat → Int) (w : World) : (bsC #[(0, cV F)]).run Yba.prog w = .ok (.slice (some ⟨w.heap.size, 0, none⟩) 1 1) (w.alloc (.cells (cL F).toArray 73)) := by kernel_rfl
def bsI (parts : Array (Nat × Value)) : Sem Value := Instr.buildSlice 86 1 parts
theorem bsI_eq (p : Array (Nat × Value)) : Instr.buildSlice 86 1 p = bsI p := rfl
theorem build_ids (F : Nat → Int) (w : World) : (bsI #[(0, aV F)]).run Yba.prog w = .ok (.slice (some ⟨w.heap.size, 0, none⟩) 1 1) (w.alloc (.cells (aL F).toArray 62)) := by kernel_rfl
theorem t59 : Yba.prog.underlying 59 = some (.slice 73) := by kernel_rfl
theorem t86 : Yba.prog.underlying 86 = some (.slice 62) := by kernel_rfl
theorem i73w : (Yba.prog.info? 73).map (fun i => (i.zero, i.size, i.bytes)) = some (some (cV zeroF), 24, 56) := by kernel_rfl
theorem i62w : (Yba.prog.info? 62).map (fun i => (i.zero, i.size, i.bytes)) = some (some (aV zeroF), 20, 20) := by kernel_rfl
theorem c73 : (cV zeroF).cells.size = 24 := by kernel_rfl
theorem c62 : (aV zeroF).cells.size = 20 := by kernel_rfl
end Go.Proofs.Ybulkchfs
