/- CONTRACTS OF THE SMALL FUNCTIONS ON IDS: zzs4165cid (19), keyspace.Distance (47), zzs4165cdist (22), zzs4165ccmp (23), keyspace.Cmp (50). -/
import Derived.Test.YbulkchfsBase
import Derived.RegionTactic
namespace Go.Proofs.Ybulkchfs
open Go.RowKit
set_option linter.unusedVariables false
set_option linter.unusedSimpArgs false
attribute [local go_sem ↓] ldI_eq ldC_eq stI_eq stC_eq bxI_eq bxC_eq nwI_eq nwC_eq
attribute [local go_sem] load_id load_contact store_id store_contact box_id box_contact new_id new_contact
attribute [local go_sem] arr?_drew arr?_drewN arr?_alloc_past arr?_alloc_at arr?_setCell arr?_setA arr?_setA_same can?_drew can?_drewN can?_alloc_past can?_alloc_at can?_setCell can?_setA cell_setA frozen_setA size_setA agg_aL agg_cL set_aL lset_aL size_aL size_cL length_aL length_cL

theorem cid_any (b : Int) (w : World) : Calls Yba.prog 19 #[.int .u8 b] w fun e w' => e = .returned (aV (idF b)) ∧ Below w.heap.size w w' := by
  go_enter Yba.func19, Yba.ntmps19
  go_wp2
  refine bodyPost_ret (v := aV (idF b)) (result_id Yba.results19 _ _ w.heap.size 0 (idF b) rfl ?_) rfl ⟨rfl, ?_⟩
  · exact arr?_setA_same _ _ _ _ _ (length_aL _) (by go_simp)
  · exact below_setA (((Below.refl _ _).alloc (Nat.le_refl _) _).alloc (by simp) _) _ _ _ (Nat.le_refl _)

/-- Byte by byte. -/
def xorF (A B : Nat → Int) : Nat → Int := fun i => bits BinOp.xor IntKind.u8 (A i) (B i)

/-- AFTER k ROUNDS of the xor loop: the two arguments lie in N and N + 1, the result's variable in N + 2, what is being made in N + 3. -/
structure Xor (w : World) (A B : Nat → Int) (k : Nat) (wr : World) : Prop where
  a : ∀ i, i < 20 → wr.cell? ⟨w.heap.size, i, none⟩ = some (.int .u8 (A i))
  b : ∀ i, i < 20 → wr.cell? ⟨w.heap.size + 1, i, none⟩ = some (.int .u8 (B i))
  r : can? wr 20 (w.heap.size + 2) 0 = true
  d : wr.rowIs (w.heap.size + 3) 62 20 (fun i => .int .u8 (if i < k then xorF A B i else 0))
  below : Below w.heap.size w wr
  size : w.heap.size + 3 < wr.heap.size

theorem xor_start (w : World) (A B : Nat → Int) : Xor w A B 0 ((((w.alloc (.cells (aL A).toArray 62)).alloc (.cells (aL B).toArray 62)).alloc (.cells (aL zeroF).toArray 62)).alloc (.cells (aL zeroF).toArray 62)) := by
  have hA := fun i (h : i < 20) => aL_at A h
  have hB := fun i (h : i < 20) => aL_at B h
  refine ⟨fun i hi => ?_, fun i hi => ?_, ?_, ?_, ?_, by simp only [World.size_alloc]; omega⟩
  · rw [World.cell?_alloc_past _ _ _ (by simp only [World.size_alloc]; omega), World.cell?_alloc_past _ _ _ (by simp only [World.size_alloc]; omega), World.cell?_alloc_past _ _ _ (by simp only [World.size_alloc]; omega), World.cell?_alloc_at _ _ _ _ rfl]
    simpa using hA i hi
  · rw [World.cell?_alloc_past _ _ _ (by simp), World.cell?_alloc_past _ _ _ (by simp), World.cell?_alloc_at _ _ _ _ (by simp)]
    simpa using hB i hi
  · rw [can?_alloc_past _ _ _ _ _ (by simp), can?_alloc_at _ _ _ _ _ _ (by simp) (by simp [length_aL])]
  · have := World.rowIs_alloc (((w.alloc (.cells (aL A).toArray 62)).alloc (.cells (aL B).toArray 62)).alloc (.cells (aL zeroF).toArray 62)) (aL zeroF).toArray 62 (fun i => .int .u8 0) (fun i hi => by
      rw [size_aL] at hi
      simpa [zeroF] using aL_at zeroF hi)
    rw [size_aL] at this
    have hs : (((w.alloc (.cells (aL A).toArray 62)).alloc (.cells (aL B).toArray 62)).alloc (.cells (aL zeroF).toArray 62)).heap.size = w.heap.size + 3 := by simp
    rw [hs] at this
    exact this.congr (fun i _ => by simp)
  · exact (((((Below.refl _ w).alloc (Nat.le_refl _) _).alloc (by simp) _).alloc (by simp; omega) _).alloc (by simp; omega) _)

theorem xor_step {w wr : World} {A B : Nat → Int} {k : Nat} (h : Xor w A B k wr) (hk : k < 20) (v : Int) (hv : v = xorF A B k) : Xor w A B (k + 1) (wr.setCell ⟨w.heap.size + 3, k, none⟩ (.int .u8 v)).drew := by
  refine ⟨fun i hi => ?_, fun i hi => ?_, ?_, ?_, ?_, ?_⟩
  · rw [World.cell?_drew, World.cell?_setCell_other _ _ _ _ (fun e => by injection e with e1 _; omega)]; exact h.a i hi
  · rw [World.cell?_drew, World.cell?_setCell_other _ _ _ _ (fun e => by injection e with e1 _; omega)]; exact h.b i hi
  · rw [can?_drew, can?_setCell]; exact h.r
  · refine ((h.d.set k _).drew).congr (fun i hi => ?_)
    show (if i = k then _ else _) = _
    by_cases e : i = k
    · subst e; rw [if_pos rfl, if_pos (by omega), hv]
    · rw [if_neg e]
      by_cases e2 : i < k
      · rw [if_pos e2, if_pos (by omega)]
      · rw [if_neg e2, if_neg (by omega)]
  · exact (h.below.setCell (by show w.heap.size ≤ w.heap.size + 3; omega) _).drew
  · have := h.size; simpa using this

theorem xor_arr {w wr : World} {A B : Nat → Int} (h : Xor w A B 20 wr) : arr? wr 20 (w.heap.size + 3) 0 = some (aL (xorF A B)) := by
  refine arr?_of (length_aL _) (fun j v hj => ?_)
  have hj20 : j < 20 := by have := (List.getElem?_eq_some_iff.1 hj).1; rwa [length_aL] at this
  rw [aL_at _ hj20] at hj
  injection hj with hj
  rw [Nat.zero_add, h.d.cell hj20, if_pos hj20, ← hj]

theorem dist_any (A B : Nat → Int) (w : World) : Calls Yba.prog 47 #[aV A, aV B] w fun e w' => e = .returned (aV (xorF A B)) ∧ Below w.heap.size w w' := by
  go_enter Yba.func47, Yba.ntmps47
  go_wp2
  go_loopw [6, 7] (fun _ i wr => ∃ k : Nat, k ≤ 20 ∧ i = .int .i64 k ∧ Xor w A B k wr) (fun _ i _ => 20 - (intOf i).toNat)
  case atStart => exact ⟨0, Nat.zero_le _, rfl, xor_start w A B⟩
  case round =>
    obtain ⟨k, hk, rfl, hx⟩ := hrel
    have HX : Hid (Xor w A B k wr) := hx
    by_cases hlt : k < 20
    · have hca := hx.a k hlt
      have hcb := hx.b k hlt
      have hcd := hx.d.cell hlt
      have hfd := hx.d.frozen k
      have hk0 : (0 : Int) ≤ (k : Int) := by omega
      have hk1 : (k : Int) < 20 := by omega
      clear hx
      go_wp2
      go_region
      all_goals
        go_wp2
        go_roundw
        case rel => exact ⟨k + 1, by omega, by go_num, xor_step HX.out hlt _ rfl⟩
        case measure => simp [intOf]; omega
    · obtain rfl : k = 20 := by omega
      have har := xor_arr hx
      have hcr := hx.r
      clear hx
      go_wp2
      refine bodyPost_ret (v := aV (xorF A B)) (result_id Yba.results47 _ _ (w.heap.size + 2) 0 _ rfl ?_) rfl ⟨rfl, ?_⟩
      · exact arr?_setA_same _ _ _ _ _ (length_aL _) hcr
      · exact below_setA HX.out.below _ _ _ (by omega)
theorem cdist_any (A B : Nat → Int) (w : World) : Calls Yba.prog 22 #[aV A, aV B] w fun e w' => e = .returned (aV (xorF A B)) ∧ Below w.heap.size w w' := by
  go_enter Yba.func22, Yba.ntmps22
  go_wp2
  go_loopw [6] (fun i wr => ∃ k : Nat, k ≤ 20 ∧ i = .int .i64 k ∧ Xor w A B k wr) (fun i _ => 20 - (intOf i).toNat)
  case atStart => exact ⟨0, Nat.zero_le _, rfl, xor_start w A B⟩
  case round =>
    obtain ⟨k, hk, rfl, hx⟩ := hrel
    have HX : Hid (Xor w A B k wr) := hx
    by_cases hlt : k < 20
    · have hca := hx.a k hlt
      have hcb := hx.b k hlt
      have hcd := hx.d.cell hlt
      have hfd := hx.d.frozen k
      have hk0 : (0 : Int) ≤ (k : Int) := by omega
      have hk1 : (k : Int) < 20 := by omega
      clear hx
      go_wp2
      go_region
      all_goals
        go_wp2
        go_roundw
        case rel => exact ⟨k + 1, by omega, by go_num, xor_step HX.out hlt _ rfl⟩
        case measure => simp [intOf]; omega
    · obtain rfl : k = 20 := by omega
      have har := xor_arr hx
      have hcr := hx.r
      clear hx
      go_wp2
      refine bodyPost_ret (v := aV (xorF A B)) (result_id Yba.results22 _ _ (w.heap.size + 2) 0 _ rfl ?_) rfl ⟨rfl, ?_⟩
      · exact arr?_setA_same _ _ _ _ _ (length_aL _) hcr
      · exact below_setA HX.out.below _ _ _ (by omega)

/-- Compared as numbers: from byte k on, n bytes. -/
def cmpFrom (A B : Nat → Int) : Nat → Nat → Int
  | 0, _ => 0
  | n + 1, k => if A k < B k then -1 else if B k < A k then 1 else cmpFrom A B n (k + 1)
def cmpF (A B : Nat → Int) : Int := cmpFrom A B 20 0

theorem ccmp_any (A B : Nat → Int) (w : World) : Calls Yba.prog 23 #[aV A, aV B] w fun e w' => e = .returned (.int .i64 (cmpF A B)) ∧ Below w.heap.size w w' := by
  obtain ⟨W, hW⟩ : ∃ W, W = (w.alloc (.cells (aL A).toArray 62)).alloc (.cells (aL B).toArray 62) := ⟨_, rfl⟩
  have HA : Hid (∀ i, i < 20 → W.cell? ⟨w.heap.size, i, none⟩ = some (.int .u8 (A i))) := fun i hi => by
    rw [hW, World.cell?_alloc_past _ _ _ (by simp), World.cell?_alloc_at _ _ _ _ rfl]
    simpa using aL_at A hi
  have HB : Hid (∀ i, i < 20 → W.cell? ⟨w.heap.size + 1, i, none⟩ = some (.int .u8 (B i))) := fun i hi => by
    rw [hW, World.cell?_alloc_at _ _ _ _ (by simp)]
    simpa using aL_at B hi
  have HW : Hid (Below w.heap.size w W) := by
    rw [hW]
    exact ((Below.refl _ w).alloc (Nat.le_refl _) _).alloc (by simp) _
  go_enter Yba.func23, Yba.ntmps23
  go_wp2
  rw [← hW]
  clear hW
  go_loopw [5] (fun i wr => ∃ k : Nat, k ≤ 20 ∧ i = .int .i64 k ∧ cmpFrom A B (20 - k) k = cmpF A B ∧ ∃ m, wr = W.drewN m) (fun i _ => 20 - (intOf i).toNat)
  case atStart => exact ⟨0, Nat.zero_le _, rfl, rfl, 0, rfl⟩
  case round =>
    obtain ⟨k, hk, rfl, hc, m, rfl⟩ := hrel
    have HC : Hid (cmpFrom A B (20 - k) k = cmpF A B) := hc
    clear hc
    by_cases hlt : k < 20
    · have hca := HA.out k hlt
      have hcb := HB.out k hlt
      have hk0 : (0 : Int) ≤ (k : Int) := by omega
      have hk1 : (k : Int) < 20 := by omega
      have HS : Hid (cmpF A B = if A k < B k then -1 else if B k < A k then 1 else cmpFrom A B (20 - (k + 1)) (k + 1)) := by
        show _ = _
        rw [← HC.out, show 20 - k = (20 - (k + 1)) + 1 from by omega]
        rfl
      obtain ⟨x, hx⟩ : ∃ x, x = A k := ⟨_, rfl⟩
      obtain ⟨y, hy⟩ : ∃ y, y = B k := ⟨_, rfl⟩
      rw [← hx] at hca HS
      rw [← hy] at hcb HS
      clear hx hy
      by_cases h1 : x < y
      · go_wp2
        go_quiet (fail)
        go_wp2
        go_ret
        exact ⟨by rw [HS.out, if_pos (by omega)]; rfl, HW.out.trans ⟨rfl, rfl, rfl, Nat.le_refl _, fun _ _ => rfl⟩⟩
      · by_cases h2 : y < x
        · go_wp2
          go_quiet (fail)
          go_wp2
          go_quiet (fail)
          go_wp2
          go_ret
          exact ⟨by rw [HS.out, if_neg (by omega), if_pos (by omega)]; rfl, HW.out.trans ⟨rfl, rfl, rfl, Nat.le_refl _, fun _ _ => rfl⟩⟩
        · go_wp2
          go_quiet (fail)
          go_wp2
          go_quiet (fail)
          go_wp2
          go_roundw
          case rel => exact ⟨k + 1, by omega, by go_num, by rw [HS.out, if_neg (by omega), if_neg (by omega)], _, rfl⟩
          case measure => simp [intOf]; omega
    · obtain rfl : k = 20 := by omega
      go_wp2
      go_ret
      exact ⟨by rw [← HC.out]; rfl, HW.out.trans ⟨rfl, rfl, rfl, Nat.le_refl _, fun _ _ => rfl⟩⟩
end Go.Proofs.Ybulkchfs
