/-
  THE GROUND OF THE TWO LOOKUP LAWS: ids as arrays of twenty bytes, contacts of twenty-four cells, how the walk reads such rows at once ('arr?'), and worlds that have grown ('up').
-/
import Derived.Test.YbulkchfsRows
import Derived.WalkKit
import Derived.BigQuiet
import Derived.Deep.QuietTactic
import Derived.Deep.OwnRows
import Derived.Deep.MidRow
import Derived.ChangeKeysEq
namespace Go.Proofs.Ybulkchfs
open Go.RowKit
set_option linter.unusedVariables false
set_option linter.unusedSimpArgs false

/-- The twenty cells of an id whose bytes are F. -/
def aL (F : Nat → Int) : List Value := (List.range 20).map fun i => .int .u8 (F i)
/-- An id as a value. -/
def aV (F : Nat → Int) : Value := .agg (aL F).toArray
/-- A contact with a zero address: twenty-four cells. -/
def cL (F : Nat → Int) : List Value := aL F ++ [.int .u64 0, .int .u64 0, .pointer none, .int .u16 0]
def cV (F : Nat → Int) : Value := .agg (cL F).toArray
/-- The id 'zzs4165cid(b)'. -/
def idF (b : Int) : Nat → Int := fun i => if i = 19 then b else 0

theorem length_aL (F : Nat → Int) : (aL F).length = 20 := by simp [aL]
theorem length_cL (F : Nat → Int) : (cL F).length = 24 := by simp [cL, length_aL]
theorem aL_at (F : Nat → Int) {i : Nat} (h : i < 20) : (aL F)[i]? = some (.int .u8 (F i)) := by simp [aL, h]

/-! ### n cells from an offset on, read at once -/

/-- The n cells from offset o of block b on, if all are there. -/
def arr? (w : World) (n b o : Nat) : Option (List Value) :=
  if (List.range n).all (fun i => (w.cell? ⟨b, o + i, none⟩).isSome) then some ((List.range n).map fun i => (w.cell? ⟨b, o + i, none⟩).getD undef) else none

theorem arr?_of {w : World} {n b o : Nat} {cs : List Value} (hl : cs.length = n) (h : w.rangeAt b o cs) : arr? w n b o = some cs := by
  have hc : ∀ i, i < n → w.cell? ⟨b, o + i, none⟩ = some (cs.getD i undef) := fun i hi => by
    refine h i _ ?_
    rw [List.getD_eq_getElem?_getD, List.getElem?_eq_getElem (by omega)]; rfl
  unfold arr?
  rw [if_pos]
  · congr 1
    apply List.ext_getElem?
    intro i
    by_cases hi : i < n
    · simp [hi, hc i hi, hl]
    · rw [List.getElem?_eq_none (by simp; omega), List.getElem?_eq_none (by omega)]
  · rw [List.all_eq_true]
    intro i hi
    rw [hc i (by simpa using hi)]; rfl

theorem of_arr? {w : World} {n b o : Nat} {cs : List Value} (h : arr? w n b o = some cs) : cs.length = n ∧ w.rangeAt b o cs := by
  unfold arr? at h
  split at h
  · rename_i ha
    injection h with h
    subst h
    refine ⟨by simp, fun j v hj => ?_⟩
    rw [List.all_eq_true] at ha
    have hjn : j < n := by have := (List.getElem?_eq_some_iff.1 hj).1; simpa using this
    have hs := ha j (by simpa using hjn)
    obtain ⟨u, hu⟩ := Option.isSome_iff_exists.1 hs
    simp [hjn, hu] at hj
    rw [hu, hj]
  · cases h

theorem arr?_congr {w w' : World} {n b o b' o' : Nat} (h : ∀ i, i < n → w'.cell? ⟨b', o' + i, none⟩ = w.cell? ⟨b, o + i, none⟩) : arr? w' n b' o' = arr? w n b o := by
  have h1 : (List.range n).all (fun i => (w'.cell? ⟨b', o' + i, none⟩).isSome) = (List.range n).all (fun i => (w.cell? ⟨b, o + i, none⟩).isSome) := by
    rw [Bool.eq_iff_iff, List.all_eq_true, List.all_eq_true]
    constructor
    · intro ha i hi; rw [← h i (by simpa using hi)]; exact ha i hi
    · intro ha i hi; rw [h i (by simpa using hi)]; exact ha i hi
  have h2 : ((List.range n).map fun i => (w'.cell? ⟨b', o' + i, none⟩).getD undef) = ((List.range n).map fun i => (w.cell? ⟨b, o + i, none⟩).getD undef) :=
    List.map_congr_left (fun i hi => by rw [h i (by simpa using hi)])
  unfold arr?
  rw [h1, h2]

theorem arr?_drew (w : World) (n b o : Nat) : arr? w.drew n b o = arr? w n b o := rfl
theorem arr?_drewN (w : World) (m n b o : Nat) : arr? (w.drewN m) n b o = arr? w n b o := rfl
theorem arr?_alloc_past (w : World) (ob : Obj) (n b o : Nat) (hb : b < w.heap.size) : arr? (w.alloc ob) n b o = arr? w n b o := arr?_congr fun i _ => World.cell?_alloc_past _ _ _ hb
theorem arr?_alloc_at (w : World) (cs : List Value) (t : TypeId) (n b : Nat) (hb : b = w.heap.size) (hl : cs.length = n) : arr? (w.alloc (.cells cs.toArray t)) n b 0 = some cs :=
  arr?_of hl (fun j v hj => by rw [World.cell?_alloc_at _ _ _ _ hb]; simpa using hj)
theorem arr?_setCell (w : World) (b' o' n b o : Nat) (v : Value) (h : b' ≠ b ∨ o' < o ∨ o + n ≤ o') : arr? (w.setCell ⟨b', o', none⟩ v) n b o = arr? w n b o :=
  arr?_congr fun i hi => World.cell?_setCell_other _ _ _ _ (fun e => by injection e with e1 e2; omega)

/-! ### The operations on ids and contacts, each behind a name: so that the walk's simp takes the law, not the text of the operation -/
def ldI (v : Value) : Sem Value := Instr.loadAt 62 v
def ldC (v : Value) : Sem Value := Instr.loadAt 73 v
def stI (v x : Value) : Sem Unit := Instr.storeAt 62 v x
def stC (v x : Value) : Sem Unit := Instr.storeAt 73 v x
def bxI (v : Value) : Sem Value := Instr.box 62 v
def bxC (v : Value) : Sem Value := Instr.box 73 v
def nwI (v : Value) : Sem Value := Instr.alloc 62 true v
def nwC (v : Value) : Sem Value := Instr.alloc 73 true v
theorem ldI_eq (v : Value) : Instr.loadAt 62 v = ldI v := rfl
theorem ldC_eq (v : Value) : Instr.loadAt 73 v = ldC v := rfl
theorem stI_eq (v x : Value) : Instr.storeAt 62 v x = stI v x := rfl
theorem stC_eq (v x : Value) : Instr.storeAt 73 v x = stC v x := rfl
theorem bxI_eq (v : Value) : Instr.box 62 v = bxI v := rfl
theorem bxC_eq (v : Value) : Instr.box 73 v = bxC v := rfl
theorem nwI_eq (v : Value) : Instr.alloc 62 true v = nwI v := rfl
theorem nwC_eq (v : Value) : Instr.alloc 73 true v = nwC v := rfl

/-- THE LOAD OF AN ID, OF A CONTACT. -/
theorem load_id (w : World) (b o : Nat) (h : (arr? w 20 b o).isSome = true) : (ldI (.pointer (some ⟨b, o, none⟩))).run Yba.prog w = .ok (.agg ((arr? w 20 b o).getD []).toArray) w := by
  obtain ⟨cs, hcs⟩ := Option.isSome_iff_exists.1 h
  obtain ⟨hl, hr⟩ := of_arr? hcs
  rw [hcs]
  exact run_loadAt_mid w b o 62 cs _ hr Yba.underlying62 rfl (by rw [hl]; kernel_rfl)
theorem load_contact (w : World) (b o : Nat) (h : (arr? w 24 b o).isSome = true) : (ldC (.pointer (some ⟨b, o, none⟩))).run Yba.prog w = .ok (.agg ((arr? w 24 b o).getD []).toArray) w := by
  obtain ⟨cs, hcs⟩ := Option.isSome_iff_exists.1 h
  obtain ⟨hl, hr⟩ := of_arr? hcs
  rw [hcs]
  exact run_loadAt_mid w b o 73 cs _ hr Yba.underlying73 rfl (by rw [hl]; kernel_rfl)

/-! ### A row stored at once -/

/-- n cells are there from offset o of block b on, and may be written. -/
def can? (w : World) (n b o : Nat) : Bool := (List.range n).all fun i => (w.cell? ⟨b, o + i, none⟩).isSome && !(w.frozen? ⟨b, o + i, none⟩)
/-- The world behind the store of the row cs. -/
def setA (w : World) (b o : Nat) (cs : List Value) : World := w.setCells b o cs

theorem can?_iff {w : World} {n b o : Nat} : can? w n b o = true ↔ w.there b o n := by
  unfold can? World.there
  rw [List.all_eq_true]
  constructor
  · intro h j hj
    have := h j (by simpa using hj)
    simpa using this
  · intro h j hj
    have := h j (by simpa using hj)
    simp [this]

theorem can?_congr {w w' : World} {n b o b' o' : Nat} (h : ∀ i, i < n → (w'.cell? ⟨b', o' + i, none⟩).isSome = (w.cell? ⟨b, o + i, none⟩).isSome) (hf : ∀ i, i < n → w'.frozen? ⟨b', o' + i, none⟩ = w.frozen? ⟨b, o + i, none⟩) : can? w' n b' o' = can? w n b o := by
  unfold can?
  rw [Bool.eq_iff_iff, List.all_eq_true, List.all_eq_true]
  constructor
  · intro ha i hi; rw [← h i (by simpa using hi), ← hf i (by simpa using hi)]; exact ha i hi
  · intro ha i hi; rw [h i (by simpa using hi), hf i (by simpa using hi)]; exact ha i hi

theorem can?_drew (w : World) (n b o : Nat) : can? w.drew n b o = can? w n b o := rfl
theorem can?_drewN (w : World) (m n b o : Nat) : can? (w.drewN m) n b o = can? w n b o := rfl
theorem can?_alloc_past (w : World) (ob : Obj) (n b o : Nat) (hb : b < w.heap.size) : can? (w.alloc ob) n b o = can? w n b o :=
  can?_congr (fun i _ => by rw [World.cell?_alloc_past _ _ _ hb]) (fun i _ => World.frozen?_alloc_past _ _ _ hb)
theorem can?_alloc_at (w : World) (c : Array Value) (t : TypeId) (n b o : Nat) (hb : b = w.heap.size) (hl : o + n ≤ c.size) : can? (w.alloc (.cells c t)) n b o = true :=
  can?_iff.2 fun j hj => ⟨by rw [World.cell?_alloc_at _ _ _ _ hb, Array.getElem?_eq_getElem (by omega)]; rfl, World.frozen?_alloc_at _ _ _ _ hb⟩

theorem isSome_setCell (w : World) (a a' : Addr) (v : Value) : ((w.setCell a v).cell? a').isSome = (w.cell? a').isSome := by
  by_cases e : a = a'
  · subst e
    cases h : w.cell? a with
    | some u => rw [World.cell?_setCell_same _ _ _ h]; rfl
    | none =>
      simp only [World.cell?, World.setCell] at h ⊢
      rw [Array.getElem?_modify]
      cases hb : w.heap[a.block]? with
      | none => simp
      | some ob =>
        rw [hb] at h
        simp
        cases ob <;> simp_all
  · rw [World.cell?_setCell_other _ _ _ _ e]
theorem can?_setCell (w : World) (a : Addr) (n b o : Nat) (v : Value) : can? (w.setCell a v) n b o = can? w n b o :=
  can?_congr (fun i _ => isSome_setCell _ _ _ _) (fun i _ => World.frozen?_setCell _ _ _ _)

theorem isSome_setA (cs : List Value) : ∀ (w : World) (b o : Nat) (a : Addr), ((setA w b o cs).cell? a).isSome = (w.cell? a).isSome := by
  induction cs with
  | nil => intros; rfl
  | cons v r ih =>
    intro w b o a
    unfold setA at *
    rw [World.setCells, ih, isSome_setCell]
theorem frozen_setA (w : World) (b o : Nat) (cs : List Value) (a : Addr) : (setA w b o cs).frozen? a = w.frozen? a := World.frozen?_setCells _ _ _ _ _
theorem size_setA (cs : List Value) : ∀ (w : World) (b o : Nat), (setA w b o cs).heap.size = w.heap.size := by
  induction cs with
  | nil => intros; rfl
  | cons v r ih =>
    intro w b o
    unfold setA at *
    rw [World.setCells, ih, World.size_setCell]
theorem can?_setA (w : World) (b' o' n b o : Nat) (cs : List Value) : can? (setA w b' o' cs) n b o = can? w n b o :=
  can?_congr (fun i _ => isSome_setA _ _ _ _ _) (fun i _ => frozen_setA _ _ _ _ _)
theorem cell_setA (w : World) (b' o' b o : Nat) (cs : List Value) (h : b' ≠ b ∨ o < o' ∨ o' + cs.length ≤ o) : (setA w b' o' cs).cell? ⟨b, o, none⟩ = w.cell? ⟨b, o, none⟩ :=
  World.cell?_setCells_out b' cs o' w ⟨b, o, none⟩ (fun e _ => by
    rcases h with h | h | h
    · exact absurd e.symm h
    · exact .inl h
    · exact .inr h)
theorem arr?_setA (w : World) (b' o' n b o : Nat) (cs : List Value) (h : b' ≠ b ∨ o + n ≤ o' ∨ o' + cs.length ≤ o) : arr? (setA w b' o' cs) n b o = arr? w n b o :=
  arr?_congr fun i hi => cell_setA w b' o' b (o + i) cs (by omega)
theorem arr?_setA_same (w : World) (b o n : Nat) (cs : List Value) (hn : cs.length = n) (h : can? w n b o = true) : arr? (setA w b o cs) n b o = some cs :=
  arr?_of hn (World.rangeAt_setCells_same w b o cs (hn ▸ can?_iff.1 h))
theorem heap_setA (cs : List Value) : ∀ (w : World) (b o k : Nat), k ≠ b → (setA w b o cs).heap[k]? = w.heap[k]? := by
  induction cs with
  | nil => intros; rfl
  | cons v r ih =>
    intro w b o k hk
    unfold setA at *
    rw [World.setCells, ih _ _ _ _ hk, Below.heap_setCell _ _ _ _ hk]
theorem os_setA (cs : List Value) : ∀ (w : World) (b o : Nat), (setA w b o cs).os = w.os ∧ (setA w b o cs).tape = w.tape ∧ (setA w b o cs).output = w.output := by
  induction cs with
  | nil => intros; exact ⟨rfl, rfl, rfl⟩
  | cons v r ih =>
    intro w b o
    unfold setA at *
    rw [World.setCells]
    exact ih _ _ _
theorem below_setA {B : Nat} {a w : World} (h : Below B a w) (b o : Nat) (cs : List Value) (hb : B ≤ b) : Below B a (setA w b o cs) :=
  h.trans ⟨(os_setA cs w b o).1, (os_setA cs w b o).2.1, (os_setA cs w b o).2.2, Nat.le_of_eq (size_setA cs w b o).symm, fun k hk => heap_setA cs w b o k (by omega)⟩

theorem one_aL (F : Nat → Int) : ∀ v ∈ aL F, v.oneCell' = true := by
  intro v hv
  simp only [aL, List.mem_map] at hv
  obtain ⟨i, _, rfl⟩ := hv
  rfl
theorem one_cL (F : Nat → Int) : ∀ v ∈ cL F, v.oneCell' = true := by
  intro v hv
  simp only [cL, List.mem_append, List.mem_cons, List.not_mem_nil, or_false] at hv
  rcases hv with hv | rfl | rfl | rfl | rfl
  · exact one_aL F v hv
  all_goals rfl

/-- THE STORE OF AN ID, OF A CONTACT. -/
theorem info62 : (Yba.prog.info? 62).map (·.size) = some 20 := by kernel_rfl
theorem info73 : (Yba.prog.info? 73).map (·.size) = some 24 := by kernel_rfl
theorem store_id (w : World) (b o : Nat) (F : Nat → Int) (h : can? w 20 b o = true) : (stI (.pointer (some ⟨b, o, none⟩)) (aV F)).run Yba.prog w = .ok () (setA w b o (aL F)) :=
  run_storeAt_mid w b o 62 (aL F).toArray (by simpa [length_aL] using can?_iff.1 h) (by rw [info62]; simp [length_aL]) (all_oneCell_toArray (one_aL F))
theorem store_contact (w : World) (b o : Nat) (F : Nat → Int) (h : can? w 24 b o = true) : (stC (.pointer (some ⟨b, o, none⟩)) (cV F)).run Yba.prog w = .ok () (setA w b o (cL F)) :=
  run_storeAt_mid w b o 73 (cL F).toArray (by simpa [length_cL] using can?_iff.1 h) (by rw [info73]; simp [length_cL]) (all_oneCell_toArray (one_cL F))

/-! ### Boxes, new variables, one cell set -/
def zeroF : Nat → Int := fun _ => 0
def setF (F : Nat → Int) (k : Nat) (v : Int) : Nat → Int := fun i => if i = k then v else F i
theorem agg_aL (F : Nat → Int) : Value.agg (aL F).toArray = aV F := rfl
theorem agg_cL (F : Nat → Int) : Value.agg (cL F).toArray = cV F := rfl
theorem box_id (F : Nat → Int) (w : World) : (bxI (aV F)).run Yba.prog w = .ok (.pointer (some ⟨w.heap.size, 0, none⟩)) (w.alloc (.cells (aL F).toArray 62)) := rfl
theorem box_contact (F : Nat → Int) (w : World) : (bxC (cV F)).run Yba.prog w = .ok (.pointer (some ⟨w.heap.size, 0, none⟩)) (w.alloc (.cells (cL F).toArray 73)) := rfl
theorem new_id (w : World) (v : Value) : (nwI v).run Yba.prog w = .ok (.pointer (some ⟨w.heap.size, 0, none⟩)) (w.alloc (.cells (aL zeroF).toArray 62)) := by kernel_rfl
theorem new_contact (w : World) (v : Value) : (nwC v).run Yba.prog w = .ok (.pointer (some ⟨w.heap.size, 0, none⟩)) (w.alloc (.cells (cL zeroF).toArray 73)) := by kernel_rfl
theorem set_aL (F : Nat → Int) (k : Nat) (v : Int) : (aL F).toArray.setIfInBounds k (.int .u8 v) = (aL (setF F k v)).toArray := by
  apply Array.ext_getElem?
  intro i
  rw [Array.getElem?_setIfInBounds]
  simp only [aL, List.size_toArray, List.length_map, List.length_range, List.getElem?_toArray, List.getElem?_map]
  by_cases e : k = i
  · subst e
    rw [if_pos rfl]
    by_cases h : k < 20
    · simp [h, setF]
    · simp [h]
  · rw [if_neg e]
    by_cases h : i < 20
    · have e' : ¬ i = k := fun h => e h.symm
      simp [h, setF, e']
    · simp [h]
theorem lset_aL (F : Nat → Int) (k : Nat) (v : Int) : (aL F).set k (.int .u8 v) = aL (setF F k v) := by
  have := set_aL F k v
  rw [List.setIfInBounds_toArray] at this
  exact List.toArray_inj this
theorem size_aL (F : Nat → Int) : (aL F).toArray.size = 20 := by simp [length_aL]
theorem size_cL (F : Nat → Int) : (cL F).toArray.size = 24 := by simp [length_cL]

/-- A result that is an id, in a variable of its own. -/
theorem result_id {fn : Func} {p : Tmp} (h : fn.results = #[.cell p 62]) (tmps : Array Value) (w : World) (b o : Nat) (F : Nat → Int) (hp : tmps.getD p undef = .pointer (some ⟨b, o, none⟩)) (ha : arr? w 20 b o = some (aL F)) :
    (results fn tmps).run Yba.prog w = .ok (aV F) w := by
  obtain ⟨hl, hr⟩ := of_arr? ha
  have hld := run_loadVar_mid (P := Yba.prog) w b o 62 (aL F) _ hr Yba.underlying62 rfl (by rw [hl]; exact info62)
  simp only [results, h]
  have hp' : tmps[p]?.getD undef = .pointer (some ⟨b, o, none⟩) := by simpa [Array.getD_eq_getD_getElem?] using hp
  simp [hp', asAddr, hld, aV]

/-! ### A world that has grown -/

/-- w with new blocks behind, its count of draws turned. -/
def up (w : World) (g : PProd (Array Obj) Nat) : World := { w with heap := w.heap ++ g.1, drawn := g.2 }

theorem up_below (w : World) (g : PProd (Array Obj) Nat) : Below w.heap.size w (up w g) :=
  ⟨rfl, rfl, rfl, by simp [up], fun k hk => by simp [up, Array.getElem?_append, hk]⟩

theorem up_of_below {w w' : World} (h : Below w.heap.size w w') : ∃ g, w' = up w g := by
  refine ⟨⟨w'.heap.extract w.heap.size w'.heap.size, w'.drawn⟩, ?_⟩
  have hh : w'.heap = w.heap ++ w'.heap.extract w.heap.size w'.heap.size := by
    apply Array.ext_getElem?
    intro i
    rw [Array.getElem?_append]
    by_cases hi : i < w.heap.size
    · rw [if_pos hi, h.block i hi]
    · rw [if_neg hi, Array.getElem?_extract]
      have := h.size
      by_cases hi2 : i < w'.heap.size
      · rw [if_pos (by omega)]; congr 1; omega
      · rw [if_neg (by omega), Array.getElem?_eq_none (by omega)]
  cases w'
  simp only [up, World.mk.injEq]
  exact ⟨hh, h.tape, trivial, h.os, h.output⟩

theorem cell_up (w : World) (g : PProd (Array Obj) Nat) (b o : Nat) (hb : b < w.heap.size) : (up w g).cell? ⟨b, o, none⟩ = w.cell? ⟨b, o, none⟩ := (up_below w g).cell (p := ⟨b, o, none⟩) hb
theorem frozen_up (w : World) (g : PProd (Array Obj) Nat) (b o : Nat) (hb : b < w.heap.size) : (up w g).frozen? ⟨b, o, none⟩ = w.frozen? ⟨b, o, none⟩ := (up_below w g).frozen (p := ⟨b, o, none⟩) hb
theorem arr?_up (w : World) (g : PProd (Array Obj) Nat) (n b o : Nat) (hb : b < w.heap.size) : arr? (up w g) n b o = arr? w n b o := arr?_congr fun i _ => cell_up w g b _ hb
theorem up_up (w : World) (g g' : PProd (Array Obj) Nat) : up (up w g) g' = up w ⟨g.1 ++ g'.1, g'.2⟩ := by simp [up, Array.append_assoc]
theorem size_up (w : World) (g : PProd (Array Obj) Nat) : w.heap.size ≤ (up w g).heap.size := (up_below w g).size

/-- ONE WALK IN THE ORDER OF THE TEXT, of a region that draws, whose operations only read and whose callees leave what was there as it was (they may lay new blocks): Derived/Deep/Quiet.lean's theorem at this class. -/
theorem wp_region_up {id : Nat} {Q : Exit → Act → World → Prop} {a : Act} {w : World} {l : List Oper} (hm : Yba.prog.follows .mixedOrders = true) (hB : Region.lexB .any l.toArray = true)
    (h : wpQuiet Yba.prog l.toArray (fun w' => ∃ g, w' = up w g) (fun a' => ∀ w', (∃ g, w' = up w g) → Q .normal a' w') l a) : (Code.region id l.toArray true).wp Yba.prog Q a w :=
  wp_region_quiet (C := fun w' => ∃ g, w' = up w g) hm hB ⟨⟨#[], w.drawn + 1⟩, by simp [up]⟩ (by simpa using h)

/-- A callee's contract, met in a grown world. -/
theorem up_call {f : FuncId} {args : Array Value} {w : World} {g : PProd (Array Obj) Nat} {v : Value} (h : Calls Yba.prog f args (up w g) fun e w' => e = .returned v ∧ Below (up w g).heap.size (up w g) w') :
    Calls Yba.prog f args (up w g) fun e w'' => e = .returned v ∧ ∃ g', w'' = up w g' :=
  h.mono fun _ _ ⟨he, hb⟩ => ⟨he, by obtain ⟨g', rfl⟩ := up_of_below hb; exact ⟨_, up_up _ _ _⟩⟩

end Go.Proofs.Ybulkchfs
