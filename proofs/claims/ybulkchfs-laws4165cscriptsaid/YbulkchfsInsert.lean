/- CONTRACT OF slices.Insert (51) AT []*entry AND ONE ELEMENT: the four roads (room or none; at the end or ahead of it), then one statement. -/
import Derived.Test.YbulkchfsSearch
import Derived.Shelf.Spec.SlicesInsertGrow
namespace Go.Proofs.Ybulkchfs
open Go.RowKit Go.Lib
set_option linter.unusedVariables false
set_option linter.unusedSimpArgs false

theorem i74 : (Yba.prog.info? 74).map (fun i => (i.zero, i.size, i.bytes)) = some (some (Value.pointer none), 1, 8) := by kernel_rfl
theorem t77 : Yba.prog.underlying 77 = some (.slice 74) := by kernel_rfl
theorem t3' : Yba.prog.underlying 3 = some (.int .i64) := by kernel_rfl
theorem z74 : ∀ w, (Go.sizeOf 74).run Yba.prog w = .ok 1 w := fun w => by kernel_rfl
theorem s74 : (Yba.prog.info? 74).map (·.size) = some 1 := by kernel_rfl

set_option maxHeartbeats 4000000 in
set_option maxRecDepth 100000 in
theorem ins_shift (b n c i vb vc : Nat) (cs : List Value) (e : Value) (w : World) (hi : i < n) (hroom : n + 1 ≤ c) (hc63 : c ≤ 9223372036854775807) (hvb : vb ≠ b)
    (hcl : cs.length = n)
    (hcs : ∀ j v, cs[j]? = some v → w.cell? ⟨b, j, none⟩ = some v) (hsp : ∀ j, j < n + 1 → (w.cell? ⟨b, j, none⟩).isSome = true) (hfz : ∀ j, j < n + 1 → w.frozen? ⟨b, j, none⟩ = false)
    (hvs : w.cell? ⟨vb, 0, none⟩ = some e) (h1c : ∀ v ∈ cs, v.oneCell' = true) (h1v : e.oneCell' = true)
    (tA tB : TypeId) (kA kB : Nat) (hsa : w.shape? vb = some (tA, kA)) (hsb : w.shape? b = some (tB, kB)) (hkB : kB ≠ 0) (hfa : w.frozen? ⟨vb, 0, none⟩ = false) (hfe : w.frozen? ⟨vb, kA, none⟩ = false) :
    Calls Yba.prog 51 #[.slice (some ⟨b, 0, none⟩) n c, .int .i64 i, .slice (some ⟨vb, 0, none⟩) 1 vc] w fun r w' =>
      r = .returned (.slice (some ⟨b, 0, none⟩) (n + 1) c) ∧ w' = (w.drew.setCells b (i + 1) (cs.drop i)).setCells b i [e] := by
  have mixed : Yba.prog.follows .mixedOrders = true := by kernel_rfl
  have hz2 : ¬ ((i : Int) = (n : Int)) := by omega
  have hov : ∀ lb cb, (callFunc 54 #[.slice (some ⟨vb, 0, none⟩) 1 vc, .slice (some ⟨b, i + 1, none⟩) lb cb]).run Yba.prog w = .ok (.value (.bool false)) w := fun lb cb => by
    rw [run_callFunc_extern Yba.func54 (by kernel_rfl) (by kernel_rfl) (by kernel_rfl) (e := Extern.SlicesOverlaps.overlaps #[77, 77] #[4]) (by kernel_rfl),
      Lib.run_overlaps_apart w 77 4 74 t77 1 z74 ⟨vb, 0, none⟩ ⟨b, i + 1, none⟩ 1 vc lb cb hvb tA tB kA kB hsa hsb hkB hfa hfe]
    rfl
  have hdl : (cs.drop i).length = n - i := by rw [List.length_drop, hcl]
  have hw1 : IntKind.i64.wrap ((i : Int) + 1) = (i : Int) + 1 := by rw [IntKind.wrap_i64]; omega
  have hb1 : (0 : Int) ≤ (i : Int) + 1 := by omega
  have hin : i ≤ n := by omega
  have htn : ((i : Int) + 1).toNat = i + 1 := by omega
  have hb2 : ¬ (c = i + 1) := by omega
  have hb3 : (i : Int) ≤ (n : Int) + 1 := by omega
  have hb4 : ¬ (c = i) := by omega
  have hcp1 : ∀ ty dc sc, (Builtin.copy_ #[77, 77] ty #[.slice (some ⟨b, i + 1, none⟩) (n - i) dc, .slice (some ⟨b, i, none⟩) (n + 1 - i) sc]).run Yba.prog w.drew = .ok (goInt (cs.drop i).length) (w.drew.setCells b (i + 1) (cs.drop i)) := fun ty dc sc =>
    run_copy_cells w.drew _ _ ty 74 b (i + 1) (n - i) dc ⟨b, i, none⟩ (n + 1 - i) sc (cs.drop i) t77 s74 (by rw [hdl]; simp only [Nat.min_def]; split <;> omega)
      (fun j v hj => by rw [Addr.add_lit]; exact hcs (i + j) v (by rwa [List.getElem?_drop] at hj))
      (fun j hj => hsp _ (by omega)) (fun j hj => hfz _ (by omega)) (fun v hv => h1c v (List.mem_of_mem_drop hv))
  obtain ⟨W1, hW1⟩ : ∃ W1, W1 = w.drew.setCells b (i + 1) (cs.drop i) := ⟨_, rfl⟩
  have hsp1 : ∀ k, k < n + 1 → (W1.cell? ⟨b, k, none⟩).isSome = true := fun k hk => by
    rw [hW1]
    exact isSome_setCells b (cs.drop i) (i + 1) w.drew (fun j hj => hsp _ (by omega)) _ (hsp k hk)
  have hcp2 : ∀ (W : World), (∀ x, W.cell? x = W1.cell? x) → (∀ x, W.frozen? x = W1.frozen? x) → ∀ ty dc, (Builtin.copy_ #[77, 77] ty #[.slice (some ⟨b, i, none⟩) (n + 1 - i) dc, .slice (some ⟨vb, 0, none⟩) 1 vc]).run Yba.prog W = .ok (goInt [e].length) (W.setCells b i [e]) := fun W hWc hWf ty dc =>
    run_copy_cells W _ _ ty 74 b i (n + 1 - i) dc ⟨vb, 0, none⟩ 1 vc [e] t77 s74 (by simp only [Nat.min_def, List.length_cons, List.length_nil]; split <;> omega)
      (fun j v hj => by
        have hj0 : j = 0 := by
          rcases Nat.eq_zero_or_pos j with h | h
          · exact h
          · rw [List.getElem?_eq_none (by simp; omega)] at hj; cases hj
        subst hj0
        obtain rfl : e = v := by simpa using hj
        rw [Addr.add_lit, hWc, hW1, World.cell?_setCells_out b _ _ _ _ (fun h _ => absurd h hvb)]
        exact hvs)
      (fun j hj => by rw [hWc]; exact hsp1 _ (by simp at hj; omega)) (fun j hj => by rw [hWf, hW1, World.frozen?_setCells]; exact hfz _ (by simp at hj; omega)) (fun v hv => by simp at hv; rw [hv]; exact h1v)
  rw [← hW1] at hcp1
  go_enter Yba.func51, Yba.ntmps51
  go_wp2_with (simp only [hov])
  go_region_law_o (refine step_copy_runI rfl _ _ 77 77 rfl _ _ (by simp [Act.eval, Act.put]) (by simp [Act.eval, Act.put]) (hcp1 _ _ _) ?_)
  go_wp2_with (at_builtin; refine wpList_copy_runI _ rfl _ _ 77 77 rfl _ _ rfl rfl (hcp2 _ (fun _ => rfl) (fun _ => rfl) _ _) ?_)
  go_ret
  first | exact ⟨rfl, rfl⟩ | exact ⟨rfl, by rw [hW1]⟩

theorem src1 (w : World) (vb vc : Nat) (e : Value) (hvs : w.cell? ⟨vb, 0, none⟩ = some e) (h1v : e.oneCell' = true) : Src Yba.prog 1 77 (.slice (some ⟨vb, 0, none⟩) 1 vc) 1 [e] w :=
  Src.ofSlice w t77 ⟨vb, 0, none⟩ 1 vc [e] (by simp) (fun j u hj => by
    have hj0 : j = 0 := by
      rcases Nat.eq_zero_or_pos j with h | h
      · exact h
      · rw [List.getElem?_eq_none (by simp; omega)] at hj; cases hj
    subst hj0
    obtain rfl : e = u := by simpa using hj
    rw [Addr.add_lit]; exact hvs) (fun v hv => by simp at hv; rw [hv]; exact h1v)

set_option maxHeartbeats 4000000 in
set_option maxRecDepth 100000 in
theorem ins_end_room (b n c vb vc : Nat) (e : Value) (w : World) (hroom : n + 1 ≤ c) (hc63 : c ≤ 9223372036854775807)
    (hsp : (w.cell? ⟨b, n, none⟩).isSome = true) (hfz : w.frozen? ⟨b, n, none⟩ = false) (hvs : w.cell? ⟨vb, 0, none⟩ = some e) (h1v : e.oneCell' = true) :
    Calls Yba.prog 51 #[.slice (some ⟨b, 0, none⟩) n c, .int .i64 n, .slice (some ⟨vb, 0, none⟩) 1 vc] w fun r w' =>
      r = .returned (.slice (some ⟨b, 0, none⟩) (n + 1) c) ∧ w' = w.setCells b n [e] := by
  have mixed : Yba.prog.follows .mixedOrders = true := by kernel_rfl
  have hsrc := src1 w vb vc e hvs h1v
  go_enter Yba.func51, Yba.ntmps51
  go_wp2_with (at_builtin; refine wpList_append_room1 _ rfl _ _ 77 77 rfl 74 _ _ t77 i74 b 0 n c rfl _ rfl 1 [e] hsrc hroom (by intro j hj; simp at hj; subst hj; simpa using hsp) (by intro j hj; simp at hj; subst hj; simpa using hfz) ?_)
  go_ret
  first | exact ⟨rfl, rfl⟩ | exact ⟨rfl, by simp⟩

set_option maxHeartbeats 4000000 in
set_option maxRecDepth 100000 in
theorem ins_end_grow (base : Option Addr) (n c vb vc : Nat) (cs : List Value) (e : Value) (w : World) (hnc : n ≤ c) (hroom : c < n + 1) (hbig : (n + 1) * 8 ≤ 140737488355328)
    (hcl : cs.length = n) (hnil : base = none → n = 0) (hcs : ∀ a, base = some a → ∀ j v, cs[j]? = some v → w.cell? (a.add j) = some v)
    (hvs : w.cell? ⟨vb, 0, none⟩ = some e) (h1v : e.oneCell' = true) :
    Calls Yba.prog 51 #[.slice base n c, .int .i64 n, .slice (some ⟨vb, 0, none⟩) 1 vc] w fun r w' =>
      r = .returned (.slice (some ⟨w.heap.size, 0, none⟩) (n + 1) (grownCap w (n + 1) c 74)) ∧
      w' = w.drew.alloc (.cells ((cs ++ [e]).toArray ++ Builtin.zeroCells (Value.pointer none).cells (grownCap w (n + 1) c 74 - (n + 1))) 74) := by
  have mixed : Yba.prog.follows .mixedOrders = true := by kernel_rfl
  obtain ⟨i0, hi0, hz0, hzs, hzb⟩ := info_parts i74
  have hsrc : Src Yba.prog i0.size 77 (.slice (some ⟨vb, 0, none⟩) 1 vc) 1 [e] w := by rw [hzs]; exact src1 w vb vc e hvs h1v
  have hold : (Builtin.firstCells i0.size n (.slice base n c)).run Yba.prog w.drew = .ok cs.toArray w.drew := by
    rw [hzs]
    cases base with
    | none =>
      have h0 := hnil rfl
      subst h0
      rw [List.length_eq_zero_iff.1 hcl]
      exact run_firstCells_none w.drew 1 0 0 c
    | some a => exact run_firstCells_some w.drew 1 n a n c cs (by omega) (fun j v hj => hcs a rfl j v hj)
  have hrun : ∀ ty, (Builtin.append_ #[77, 77] ty #[.slice base n c, .slice (some ⟨vb, 0, none⟩) 1 vc]).run Yba.prog w = _ := fun ty =>
    run_append_grow_src w 77 77 ty 74 i0 _ t77 hi0 hz0 base n c cs hold _ 1 [e] hsrc hroom (by omega) (by rw [hzb]; exact growslice_fits hroom hbig)
  go_enter Yba.func51, Yba.ntmps51
  cases base with
  | none =>
    have h0 := hnil rfl
    subst h0
    go_wp2_with (at_builtin; refine Lib.wpList_append_run _ rfl _ _ _ _ rfl _ _ rfl rfl _ _ (hrun _) ?_)
    go_ret
    exact ⟨rfl, rfl⟩
  | some a =>
    obtain ⟨ab, ao, asp⟩ := a
    go_wp2_with (at_builtin; refine Lib.wpList_append_run _ rfl _ _ _ _ rfl _ _ rfl rfl _ _ (hrun _) ?_)
    all_goals (go_ret; exact ⟨rfl, rfl⟩)

set_option maxHeartbeats 4000000 in
set_option maxRecDepth 100000 in
theorem ins_grow (b n c i vb vc : Nat) (cs : List Value) (e : Value) (w : World) (hi : i < n) (hnc : n ≤ c) (hroom : c < n + 1) (hbig : (n + 1) * 8 ≤ 140737488355328)
    (hcl : cs.length = n) (hcs : ∀ j v, cs[j]? = some v → w.cell? ⟨b, j, none⟩ = some v)
    (hvs : w.cell? ⟨vb, 0, none⟩ = some e) (h1c : ∀ v ∈ cs, v.oneCell' = true) (h1v : e.oneCell' = true) :
    Calls Yba.prog 51 #[.slice (some ⟨b, 0, none⟩) n c, .int .i64 i, .slice (some ⟨vb, 0, none⟩) 1 vc] w fun r w' =>
      r = .returned (.slice (some ⟨w.heap.size, 0, none⟩) (n + 1) (grownCap w (n + 1) c 74)) ∧
      w' = (((w.alloc (.cells ((cs.take i).toArray ++ Builtin.zeroCells (Value.pointer none).cells (n + 1 - i) ++ Builtin.zeroCells (Value.pointer none).cells (grownCap w (n + 1) c 74 - (n + 1))) 74)).drew.setCells w.heap.size i [e]).drew).setCells w.heap.size (i + 1) (cs.drop i) := by
  have mixed : Yba.prog.follows .mixedOrders = true := by kernel_rfl
  obtain ⟨i0, hi0, hz0, hzs, hzb⟩ := info_parts i74
  have hz2 : ¬ ((i : Int) = (n : Int)) := by omega
  have hz3 : (c : Int) < (n : Int) + 1 := by omega
  have hbw : b < w.heap.size := block_lt_of_cell (hcs 0 _ (List.getElem?_eq_getElem (by omega)))
  have hvw : vb < w.heap.size := block_lt_of_cell hvs
  have hkk : (n : Int) + 1 - (i : Int) = ((n + 1 - i : Nat) : Int) := by omega
  have hik : i + (n + 1 - i) = n + 1 := by omega
  have hold : (Builtin.firstCells i0.size i (.slice (some ⟨b, 0, none⟩) i c)).run Yba.prog w.drew = .ok (cs.take i).toArray w.drew := by
    rw [hzs]
    exact run_firstCells_some w.drew 1 i ⟨b, 0, none⟩ i c (cs.take i) (by rw [List.length_take]; omega) (fun j v hj => by
      rw [Addr.add_lit]
      rw [List.getElem?_take] at hj
      split at hj
      · rw [Nat.zero_add]; exact hcs j v hj
      · cases hj)
  have hrz : ∀ ty, (Builtin.append_ #[77, 3] ty #[.slice (some ⟨b, 0, none⟩) i c, .int .i64 ((n : Int) + 1 - (i : Int))]).run Yba.prog w =
      .ok (.slice (some ⟨w.heap.size, 0, none⟩) (n + 1) (grownCap w (n + 1) c 74)) (w.drew.alloc (.cells ((cs.take i).toArray ++ Builtin.zeroCells (Value.pointer none).cells (n + 1 - i) ++ Builtin.zeroCells (Value.pointer none).cells (grownCap w (n + 1) c 74 - (n + 1))) 74)) := fun ty => by
    have h := Lib.run_append_grow_zeros w 77 3 ty 74 i0 _ .i64 .i64 t77 t3' hi0 hz0 (some ⟨b, 0, none⟩) i c (cs.take i) hold (n + 1 - i) (by omega) (by omega) (by omega) (by omega) (by rw [hzb]; omega) (by rw [hzb, hik]; exact growslice_fits hroom hbig)
    rw [hik] at h
    rw [hkk]
    exact h
  obtain ⟨G, hG⟩ : ∃ G, G = grownCap w (n + 1) c 74 := ⟨_, rfl⟩
  obtain ⟨ROW, hROW⟩ : ∃ ROW : Array Value, ROW = (cs.take i).toArray ++ Builtin.zeroCells (Value.pointer none).cells (n + 1 - i) ++ Builtin.zeroCells (Value.pointer none).cells (G - (n + 1)) := ⟨_, rfl⟩
  rw [← hG] at hrz ⊢
  rw [← hROW] at hrz ⊢
  have hRl : n + 1 ≤ ROW.size := by
    rw [hROW]
    simp [Builtin.zeroCells, Value.cells]
    omega
  obtain ⟨W1, hW1⟩ : ∃ W1, W1 = w.drew.alloc (.cells ROW 74) := ⟨_, rfl⟩
  rw [← hW1] at hrz
  have hN : ∀ j, j < n + 1 → (W1.cell? ⟨w.heap.size, j, none⟩).isSome = true := fun j hj => by
    rw [hW1, World.cell?_alloc_at (w := w.drew) ROW _ w.heap.size j rfl, Array.getElem?_eq_getElem (by omega)]; rfl
  have hNf : ∀ j, W1.frozen? ⟨w.heap.size, j, none⟩ = false := fun j => by rw [hW1]; exact World.frozen?_alloc_at (w := w.drew) ROW _ w.heap.size j rfl
  have hOb : ∀ j v, w.cell? ⟨b, j, none⟩ = some v → W1.cell? ⟨b, j, none⟩ = some v := fun j v h => by rw [hW1, World.cell?_alloc_past (w := w.drew) _ b j hbw]; exact h
  have hOv : ∀ j v, w.cell? ⟨vb, j, none⟩ = some v → W1.cell? ⟨vb, j, none⟩ = some v := fun j v h => by rw [hW1, World.cell?_alloc_past (w := w.drew) _ vb j hvw]; exact h
  have hcpA : ∀ (W : World), (∀ x, W.cell? x = W1.cell? x) → (∀ x, W.frozen? x = W1.frozen? x) → ∀ ty dc, (Builtin.copy_ #[77, 77] ty #[.slice (some ⟨w.heap.size, i, none⟩) (n + 1 - i) dc, .slice (some ⟨vb, 0, none⟩) 1 vc]).run Yba.prog W = .ok (goInt [e].length) (W.setCells w.heap.size i [e]) := fun W hWc hWf ty dc =>
    run_copy_cells W _ _ ty 74 w.heap.size i (n + 1 - i) dc ⟨vb, 0, none⟩ 1 vc [e] t77 s74 (by simp only [Nat.min_def, List.length_cons, List.length_nil]; split <;> omega)
      (fun j v hj => by
        have hj0 : j = 0 := by
          rcases Nat.eq_zero_or_pos j with h | h
          · exact h
          · rw [List.getElem?_eq_none (by simp; omega)] at hj; cases hj
        subst hj0
        obtain rfl : e = v := by simpa using hj
        rw [Addr.add_lit, hWc]; exact hOv _ _ hvs)
      (fun j hj => by rw [hWc]; exact hN _ (by simp at hj; omega)) (fun j hj => by rw [hWf]; exact hNf _) (fun v hv => by simp at hv; rw [hv]; exact h1v)
  have hGn : n + 1 ≤ G := by rw [hG]; exact grownCap_ge w _ _ _
  have hG63 : G ≤ 9223372036854775807 := by
    have := grownCap_le_maxLen w (n + 1) c 74 (by unfold maxLen; omega)
    rw [← hG] at this
    unfold maxLen at this
    omega
  have hGi : ¬ (G = i) := by omega
  have hGim : ¬ (G = i + 1) := by omega
  have hci : ¬ (c = i) := by omega
  have hbN : b ≠ w.heap.size := by omega
  have hdl : (cs.drop i).length = n - i := by rw [List.length_drop, hcl]
  have hcpB : ∀ (W : World), (∀ x, W.cell? x = (W1.setCells w.heap.size i [e]).cell? x) → (∀ x, W.frozen? x = (W1.setCells w.heap.size i [e]).frozen? x) → ∀ ty dc sc, (Builtin.copy_ #[77, 77] ty #[.slice (some ⟨w.heap.size, i + 1, none⟩) (n - i) dc, .slice (some ⟨b, i, none⟩) (n - i) sc]).run Yba.prog W = .ok (goInt (cs.drop i).length) (W.setCells w.heap.size (i + 1) (cs.drop i)) := fun W hWc hWf ty dc sc =>
    run_copy_cells W _ _ ty 74 w.heap.size (i + 1) (n - i) dc ⟨b, i, none⟩ (n - i) sc (cs.drop i) t77 s74 (by rw [hdl]; simp only [Nat.min_def]; split <;> omega)
      (fun j v hj => by
        rw [Addr.add_lit, hWc, World.cell?_setCells_out _ _ _ _ _ (fun h _ => absurd h hbN)]
        exact hOb _ v (hcs (i + j) v (by rwa [List.getElem?_drop] at hj)))
      (fun j hj => by rw [hWc]; exact isSome_setCells _ _ _ _ (fun t ht => hN _ (by simp at ht; omega)) _ (hN _ (by omega)))
      (fun j hj => by rw [hWf, World.frozen?_setCells]; exact hNf _) (fun v hv => h1c v (List.mem_of_mem_drop hv))
  subst hW1
  have hE1 : ∀ x, ((w.alloc (.cells ROW 74)).drew).cell? x = (w.drew.alloc (.cells ROW 74)).cell? x := fun x => rfl
  have hE2 : ∀ x, ((w.alloc (.cells ROW 74)).drew).frozen? x = (w.drew.alloc (.cells ROW 74)).frozen? x := fun x => rfl
  have hF1 : ∀ x, (((w.alloc (.cells ROW 74)).drew.setCells w.heap.size i [e]).drew).cell? x = ((w.drew.alloc (.cells ROW 74)).setCells w.heap.size i [e]).cell? x := fun x => rfl
  have hF2 : ∀ x, (((w.alloc (.cells ROW 74)).drew.setCells w.heap.size i [e]).drew).frozen? x = ((w.drew.alloc (.cells ROW 74)).setCells w.heap.size i [e]).frozen? x := fun x => rfl
  have hw1 : IntKind.i64.wrap ((i : Int) + 1) = (i : Int) + 1 := by rw [IntKind.wrap_i64]; omega
  have hb1 : (0 : Int) ≤ (i : Int) + 1 := by omega
  have hin : i ≤ n := by omega
  have htn : ((i : Int) + 1).toNat = i + 1 := by omega
  have hb3 : (i : Int) ≤ (n : Int) := by omega
  clear hkk hik hold hROW hG hRl
  go_enter Yba.func51, Yba.ntmps51
  go_wp2_with (first
    | (at_builtin; refine Lib.wpList_append_run _ rfl _ _ _ _ rfl _ _ rfl rfl _ _ (hrz _) ?_)
    | (at_builtin; refine wpList_copy_runI _ rfl _ _ 77 77 rfl _ _ rfl rfl (hcpA _ hE1 hE2 _ _) ?_)
    | (at_builtin; refine wpList_copy_runI _ rfl _ _ 77 77 rfl _ _ rfl rfl (hcpB _ (fun _ => rfl) (fun _ => rfl) _ _ _) ?_))
  go_region_law_o (refine step_copy_runI rfl _ _ 77 77 rfl (.slice (some ⟨w.heap.size, i + 1, none⟩) (n - i) (G - (i + 1))) (.slice (some ⟨b, i, none⟩) (n - i) (c - i)) (by simp [Act.eval, Act.put]) (by simp [Act.eval, Act.put]) (hcpB _ hF1 hF2 3 (G - (i + 1)) (c - i)) ?_)
  go_wp2
  go_ret
  exact ⟨rfl, rfl⟩
end Go.Proofs.Ybulkchfs
