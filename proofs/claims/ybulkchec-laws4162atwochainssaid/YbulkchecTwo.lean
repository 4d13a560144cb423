/- LAW TwoChains: what holds of the world after some rounds. The list 'all' lies in block N, 'lane' in N + 1, the two arrays of pointers in N + 2 and N + 3; the requests in the blocks L; those of the lane in M. No walk of the law's text here. -/
import Derived.Test.YbulkchecOrd
namespace Go.Proofs.Ybulkchec
open Go.RowKit
set_option linter.unusedVariables false

structure Base (w : World) (N : Nat) (L M : List Nat) (wr : World) : Prop where
  nodupL : L.Nodup
  nodupM : M.Nodup
  sub : ∀ b, b ∈ M → b ∈ L
  lo : ∀ b, b ∈ L → N + 4 ≤ b
  hi : ∀ b, b ∈ L → b < wr.heap.size
  size : N + 4 ≤ wr.heap.size
  lk1 : Linked wr 0 N L
  lk2 : Linked wr 1 (N + 1) M
  free : Free wr (N :: (N + 1) :: L)
  off : ∀ b, b ∈ L → (∃ x, wr.cell? ⟨b, 16, none⟩ = some x) ∧ (∃ x, wr.cell? ⟨b, 17, none⟩ = some x) ∧ (b ∉ M → wr.cell? ⟨b, 16, none⟩ = some (.pointer none) ∧ wr.cell? ⟨b, 17, none⟩ = some (.pointer none))
  below : Below N w wr

/-- The two arrays' blocks apart, nothing that was there has turned: new blocks, draws. -/
theorem Base.carry {w : World} {N : Nat} {L M : List Nat} {wr wr' : World} (h : Base w N L M wr) (hs : wr.heap.size ≤ wr'.heap.size) (hb : ∀ b, b < wr.heap.size → b ≠ N + 2 → b ≠ N + 3 → wr'.heap[b]? = wr.heap[b]?)
    (e1 : wr'.os = wr.os) (e2 : wr'.tape = wr.tape) (e3 : wr'.output = wr.output) : Base w N L M wr' := by
  have hsz := h.size
  have hc : ∀ b o, b < wr.heap.size → b ≠ N + 2 → b ≠ N + 3 → wr'.cell? ⟨b, o, none⟩ = wr.cell? ⟨b, o, none⟩ := fun b o x y z => World.cell?_of_block (w := wr) (hb b x y z)
  have hf : ∀ b o, b < wr.heap.size → b ≠ N + 2 → b ≠ N + 3 → wr'.frozen? ⟨b, o, none⟩ = wr.frozen? ⟨b, o, none⟩ := fun b o x y z => World.frozen?_of_block (w := wr) (hb b x y z)
  have hcL : ∀ b o, b ∈ L → wr'.cell? ⟨b, o, none⟩ = wr.cell? ⟨b, o, none⟩ := fun b o hm => by have := h.lo b hm; exact hc b o (h.hi b hm) (by omega) (by omega)
  refine ⟨h.nodupL, h.nodupM, h.sub, h.lo, fun b hm => Nat.lt_of_lt_of_le (h.hi b hm) hs, Nat.le_trans hsz hs, ?_, ?_, ?_, ?_, ?_⟩
  · exact h.lk1.carry (hc _ _ (by omega) (by omega) (by omega)) (hc _ _ (by omega) (by omega) (by omega)) (fun b hm => hcL b _ hm) (fun b hm => hcL b _ hm)
  · exact h.lk2.carry (hc _ _ (by omega) (by omega) (by omega)) (hc _ _ (by omega) (by omega) (by omega)) (fun b hm => hcL b _ (h.sub b hm)) (fun b hm => hcL b _ (h.sub b hm))
  · intro b hm o
    rw [← h.free b hm o]
    simp only [List.mem_cons] at hm
    rcases hm with rfl | rfl | hm
    · exact hf _ _ (by omega) (by omega) (by omega)
    · exact hf _ _ (by omega) (by omega) (by omega)
    · have := h.lo b hm; exact hf _ _ (h.hi b hm) (by omega) (by omega)
  · intro b hm
    rw [hcL b _ hm, hcL b _ hm]
    exact h.off b hm
  · exact h.below.trans ⟨e1, e2, e3, hs, fun k hk => hb k (by omega) (by omega) (by omega)⟩

theorem Base.alloc {w : World} {N : Nat} {L M : List Nat} {wr : World} (h : Base w N L M wr) (ob : Obj) : Base w N L M (wr.alloc ob) :=
  h.carry (by simp) (fun b hb _ _ => Below.heap_alloc wr ob b hb) rfl rfl rfl

theorem Base.grown {w : World} {N : Nat} {L M : List Nat} {wr wr' : World} (h : Base w N L M wr) {g : Nat} (hg : wr.grownBy wr' (some g)) (e : g = N + 2 ∨ g = N + 3) : Base w N L M wr' :=
  h.carry hg.size (fun b hb h2 h3 => hg.block b hb (fun e' => by injection e' with e'; rcases e with e | e <;> omega)) hg.os hg.tape hg.output

theorem Base.drewN {w : World} {N : Nat} {L M : List Nat} {wr : World} (h : Base w N L M wr) (m : Nat) : Base w N L M (wr.drewN m) :=
  h.carry (Nat.le_refl _) (fun _ _ _ _ => rfl) rfl rfl rfl

/-- A new request, pushed onto 'all'. -/
theorem base_push_all {w : World} {N : Nat} {L M : List Nat} {wr : World} (z : Int) (h : Base w N L M wr) :
    Calls Yba.prog 9 #[pb N, pb wr.heap.size, .int .u8 0] (wr.alloc (.cells (reqCells z) 44)) fun e w' =>
      e = .returned (.tuple #[]) ∧ Base w N (L ++ [wr.heap.size]) M w' ∧ (∀ g, g = N + 2 ∨ g = N + 3 → w'.heap[g]? = wr.heap[g]?) ∧ w'.heap.size = wr.heap.size + 1 ∧ wr.heap.size ∉ M := by
  have hsz := h.size
  have hA := h.alloc (.cells (reqCells z) 44)
  obtain ⟨W, hW⟩ : ∃ W, W = wr.alloc (.cells (reqCells z) 44) := ⟨_, rfl⟩
  have hWs : W.heap.size = wr.heap.size + 1 := by rw [hW]; simp
  have hnew : ∀ o, W.cell? ⟨wr.heap.size, o, none⟩ = (reqCells z)[o]? := fun o => by rw [hW]; exact World.cell?_alloc_at _ _ _ _ rfl
  have hnewf : ∀ o, W.frozen? ⟨wr.heap.size, o, none⟩ = false := fun o => by rw [hW]; exact World.frozen?_alloc_at _ _ _ _ rfl
  have hblk : ∀ g, g = N + 2 ∨ g = N + 3 → W.heap[g]? = wr.heap[g]? := fun g hg => by rw [hW]; exact Below.heap_alloc wr _ g (by omega)
  have hbr : wr.heap.size ∉ L := fun e => by have := h.hi _ e; omega
  have hbm : wr.heap.size ∉ M := fun e => hbr (h.sub _ e)
  have h14 : W.cell? ⟨wr.heap.size, 14 + 2 * 0, none⟩ = some (.pointer none) := by rw [hnew]; rfl
  have h15 : W.cell? ⟨wr.heap.size, 15 + 2 * 0, none⟩ = some (.pointer none) := by rw [hnew]; rfl
  have h16 : W.cell? ⟨wr.heap.size, 16, none⟩ = some (.pointer none) := by rw [hnew]; rfl
  have h17 : W.cell? ⟨wr.heap.size, 17, none⟩ = some (.pointer none) := by rw [hnew]; rfl
  rw [← hW] at hA ⊢
  clear hW hnew
  have hfr : Free W (N :: wr.heap.size :: L) := fun b hb o => by
    simp only [List.mem_cons] at hb
    rcases hb with rfl | rfl | hb
    · exact hA.free _ (by simp) o
    · exact hnewf o
    · exact hA.free _ (by simp [hb]) o
  refine (push_any 0 N wr.heap.size L W (.inl rfl) _ _ h.nodupL (by omega) (fun e => by have := h.lo _ e; omega) hbr hA.lk1 hfr h14 h15).mono ?_
  rintro e w' ⟨rfl, hl, ht⟩
  have hmem : ∀ b, b ∈ L ++ [wr.heap.size] → N + 4 ≤ b ∧ b < wr.heap.size + 1 := fun b hb => by
    simp only [List.mem_append, List.mem_singleton] at hb
    rcases hb with hb | rfl
    · exact ⟨h.lo b hb, by have := h.hi b hb; omega⟩
    · exact ⟨hsz, by omega⟩
  have hoff : ∀ b o, b ≠ N → (o = 16 ∨ o = 17) → w'.cell? ⟨b, o, none⟩ = W.cell? ⟨b, o, none⟩ := fun b o hb ho => ht.cell b o hb (.inr (by omega))
  refine ⟨rfl, ⟨?_, h.nodupM, fun b hb => List.mem_append_left _ (h.sub b hb), fun b hb => (hmem b hb).1, fun b hb => by rw [ht.size, hWs]; exact (hmem b hb).2, by rw [ht.size, hWs]; omega, hl, ?_, ?_, ?_, ?_⟩, ?_, by rw [ht.size, hWs], hbm⟩
  · rw [List.nodup_append]
    exact ⟨h.nodupL, by simp, fun a ha b hb => by simp only [List.mem_singleton] at hb; subst hb; exact fun e => hbr (e ▸ ha)⟩
  · refine hA.lk2.carry ?_ ?_ (fun b hb => ?_) (fun b hb => ?_)
    · exact ht.cell _ _ (by omega) (.inl (fun e => by have := (hmem _ e).1; omega))
    · exact ht.cell _ _ (by omega) (.inl (fun e => by have := (hmem _ e).1; omega))
    · exact hoff b _ (by have := h.lo b (h.sub b hb); omega) (.inl rfl)
    · exact hoff b _ (by have := h.lo b (h.sub b hb); omega) (.inr rfl)
  · intro b hb o
    rw [ht.frozen]
    simp only [List.mem_cons, List.mem_append, List.not_mem_nil, or_false] at hb
    rcases hb with hb | hb | hb | hb
    · exact hA.free b (by simp [hb]) o
    · exact hA.free b (by simp [hb]) o
    · exact hA.free b (by simp [hb]) o
    · rw [hb]; exact hnewf o
  · intro b hb
    have hn : b ≠ N := by have := (hmem b hb).1; omega
    rw [hoff b 16 hn (.inl rfl), hoff b 17 hn (.inr rfl)]
    simp only [List.mem_append, List.mem_singleton] at hb
    rcases hb with hb | rfl
    · exact hA.off b hb
    · exact ⟨⟨_, h16⟩, ⟨_, h17⟩, fun _ => ⟨h16, h17⟩⟩
  · exact hA.below.trans (ht.below (Nat.le_refl _) (fun b hb => by have := (hmem b hb).1; omega))
  · intro g hg
    rw [ht.block g (by omega) (fun e => by have := (hmem g e).1; omega)]
    exact hblk g hg

/-- A request of 'all' that is not in the lane, pushed onto 'lane'. -/
theorem base_push_lane {w : World} {N : Nat} {L M : List Nat} {wr : World} (br : Nat) (h : Base w N L M wr) (hL : br ∈ L) (hM : br ∉ M) :
    Calls Yba.prog 9 #[pb (N + 1), pb br, .int .u8 1] wr fun e w' =>
      e = .returned (.tuple #[]) ∧ Base w N L (M ++ [br]) w' ∧ (∀ g, g = N + 2 ∨ g = N + 3 → w'.heap[g]? = wr.heap[g]?) ∧ w'.heap.size = wr.heap.size := by
  have hsz := h.size
  have hlo := h.lo br hL
  obtain ⟨⟨x, hx⟩, ⟨y, hy⟩, _⟩ := h.off br hL
  have hfr : Free wr ((N + 1) :: br :: M) := fun b hb o => by
    simp only [List.mem_cons] at hb
    rcases hb with rfl | rfl | hb
    · exact h.free _ (by simp) o
    · exact h.free _ (by simp [hL]) o
    · exact h.free _ (by simp [h.sub b hb]) o
  refine (push_any 1 (N + 1) br M wr (.inr rfl) x y h.nodupM (by omega) (fun e => by have := h.lo _ (h.sub _ e); omega) hM h.lk2 hfr hx hy).mono ?_
  rintro e w' ⟨rfl, hl, ht⟩
  have hmem : ∀ b, b ∈ M ++ [br] → b ∈ L := fun b hb => by
    simp only [List.mem_append, List.mem_singleton] at hb
    rcases hb with hb | rfl
    · exact h.sub b hb
    · exact hL
  have hq : ∀ b o, b ∈ L → (o ≠ 16 ∧ o ≠ 17) → w'.cell? ⟨b, o, none⟩ = wr.cell? ⟨b, o, none⟩ := fun b o hb ho => ht.cell b o (by have := h.lo b hb; omega) (.inr (by omega))
  refine ⟨rfl, ⟨h.nodupL, ?_, hmem, h.lo, fun b hb => by rw [ht.size]; exact h.hi b hb, by rw [ht.size]; omega, ?_, hl, ?_, ?_, ?_⟩, ?_, ht.size⟩
  · rw [List.nodup_append]
    exact ⟨h.nodupM, by simp, fun a ha b hb => by simp only [List.mem_singleton] at hb; subst hb; exact fun e => hM (e ▸ ha)⟩
  · refine h.lk1.carry ?_ ?_ (fun b hb => ?_) (fun b hb => ?_)
    · exact ht.cell _ _ (by omega) (.inl (fun e => by have := h.lo _ (hmem _ e); omega))
    · exact ht.cell _ _ (by omega) (.inl (fun e => by have := h.lo _ (hmem _ e); omega))
    · exact hq b _ hb (by omega)
    · exact hq b _ hb (by omega)
  · intro b hb o
    rw [ht.frozen]
    exact h.free b hb o
  · intro b hb
    have hn : b ≠ N + 1 := by have := h.lo b hb; omega
    by_cases hbm : b ∈ M ++ [br]
    · obtain ⟨i, hi, e⟩ := List.mem_iff_getElem.1 hbm
      have h1 := hl.prev i hi
      have h2 := hl.next i hi
      rw [getD_at hi, e] at h1 h2
      exact ⟨⟨_, h1⟩, ⟨_, h2⟩, fun hne => absurd hbm hne⟩
    · rw [ht.cell b 16 hn (.inl hbm), ht.cell b 17 hn (.inl hbm)]
      obtain ⟨a1, a2, a3⟩ := h.off b hb
      exact ⟨a1, a2, fun _ => a3 (fun e => hbm (List.mem_append_left _ e))⟩
  · exact h.below.trans (ht.below (by omega) (fun b hb => by have := h.lo b (hmem b hb); omega))
  · intro g hg
    exact ht.block g (by omega) (fun e => by have := h.lo g (hmem g e); omega)

/-- An owned row stays owned where its block is as it was. -/
theorem own_keep {w w' : World} {base : Nat} {e : TypeId} {size g n cap : Nat} {xs : List Value} (h : w.ownsRow base e size (.slice (some ⟨g, 0, none⟩) n cap) n xs) (hb : w'.heap[g]? = w.heap[g]?) :
    w'.ownsRow base e size (.slice (some ⟨g, 0, none⟩) n cap) n xs := by
  obtain ⟨h1, h2⟩ := h
  refine ⟨h1, ?_⟩
  rcases h2 with ⟨h2, _⟩ | ⟨g', cap', cur, hv, hg, hh, r⟩
  · cases h2
  · refine .inr ⟨g', cap', cur, hv, hg, ?_, r⟩
    injection hv with hv
    injection hv with hv
    injection hv with hv
    subst hv
    rw [hb]; exact hh


/-- Is request j in the lane? -/
def inB (n : Nat) (B : Nat → Bool) (j : Nat) : Bool := decide (j < n) && B j

/-- AFTER k ROUNDS. -/
structure TwoRel (w : World) (m n k : Nat) (B : Nat → Bool) (L M : List Nat) (wr : World) : Prop where
  len : L.length = k
  mlen : M.length ≤ k
  mem : ∀ j, j < k → inB n B j = false → L.getD j 0 ∉ M
  base : Base w w.heap.size L M wr
  own1 : wr.ownsRow (w.heap.size + 2) 26 1 (.slice (some ⟨w.heap.size + 2, 0, none⟩) k m) k (L.map pb)
  own2 : wr.ownsRow (w.heap.size + 2) 26 1 (.slice (some ⟨w.heap.size + 3, 0, none⟩) M.length m) M.length (M.map pb)

/-- The one cell of a new block. -/
theorem one_new (w : World) (v : Value) (t : TypeId) : ∀ (j : Nat) (u : Value), [v][j]? = some u → (w.alloc (.cells #[v] t)).cell? ((⟨w.heap.size, 0, none⟩ : Addr).add j) = some u := by
  intro j u hj
  match j, hj with
  | 0, hj => simp at hj; subst hj; simp [Addr.add]

theorem one_cell (b : Nat) : ∀ u ∈ [pb b], u.oneCell' = true := by
  intro u hu; simp at hu; subst hu; rfl

/-- Behind the push onto 'all' and the append to its array. -/
theorem two_step {w : World} {m n k : Nat} {B : Nat → Bool} {L M : List Nat} {wr w1 w2 : World} {ob : Obj} (h : TwoRel w m n k B L M wr) (hb : Base w w.heap.size (L ++ [wr.heap.size]) M w1)
    (hg : ∀ g, g = w.heap.size + 2 ∨ g = w.heap.size + 3 → w1.heap[g]? = wr.heap[g]?) (hs : w1.heap.size = wr.heap.size + 1) (hnm : wr.heap.size ∉ M)
    (ho : w2.ownsRow (w.heap.size + 2) 26 1 (.slice (some ⟨w.heap.size + 2, 0, none⟩) (k + 1) m) (k + 1) (L.map pb ++ [pb wr.heap.size])) (hgr : (w1.alloc ob).grownBy w2 (some (w.heap.size + 2))) :
    TwoRel w m n (k + 1) B (L ++ [wr.heap.size]) M w2 ∧ (L ++ [wr.heap.size]).getD k 0 = wr.heap.size := by
  have hsz := h.base.size
  refine ⟨⟨by simp [h.len], by have := h.mlen; omega, fun j hj hi => ?_, (hb.alloc ob).grown hgr (.inl rfl), by simpa using ho, ?_⟩, by rw [← h.len, getD_snoc_eq]⟩
  · by_cases e : j < k
    · rw [getD_snoc_lt (by rw [h.len]; exact e)]; exact h.mem j e hi
    · obtain rfl : j = L.length := by rw [h.len]; omega
      rw [getD_snoc_eq]; exact hnm
  · refine own_keep h.own2 ?_
    rw [hgr.block (w.heap.size + 3) (by simp; omega) (fun e => by injection e with e; omega), Below.heap_alloc _ _ _ (by omega)]
    exact hg _ (.inr rfl)

/-- Behind the push onto 'lane' and the append to its array. -/
theorem two_lane {w : World} {m n k : Nat} {B : Nat → Bool} {L M : List Nat} {wr w1 w2 : World} {ob : Obj} {br : Nat} (h : TwoRel w m n (k + 1) B L M wr) (hbr : L.getD k 0 = br) (hin : inB n B k = true) (hnm : br ∉ M) (hlen : M.length ≤ k) (hb : Base w w.heap.size L (M ++ [br]) w1)
    (hg : ∀ g, g = w.heap.size + 2 ∨ g = w.heap.size + 3 → w1.heap[g]? = wr.heap[g]?) (hs : w1.heap.size = wr.heap.size)
    (ho : w2.ownsRow (w.heap.size + 2) 26 1 (.slice (some ⟨w.heap.size + 3, 0, none⟩) (M.length + 1) m) (M.length + 1) (M.map pb ++ [pb br])) (hgr : (w1.alloc ob).grownBy w2 (some (w.heap.size + 3))) :
    TwoRel w m n (k + 1) B L (M ++ [br]) w2 := by
  have hsz := h.base.size
  refine ⟨h.len, by simp; omega, fun j hj hi => ?_, (hb.alloc ob).grown hgr (.inr rfl), ?_, by simpa using ho⟩
  · have := h.mem j hj hi
    simp only [List.mem_append, List.mem_singleton, not_or]
    refine ⟨this, fun e => ?_⟩
    have : j = k := getD_inj h.base.nodupL (by rw [h.len]; exact hj) (by rw [h.len]; omega) (e.trans hbr.symm)
    subst this
    rw [hin] at hi; cases hi
  · refine own_keep h.own1 ?_
    rw [hgr.block (w.heap.size + 2) (by simp; omega) (fun e => by injection e with e; omega), Below.heap_alloc _ _ _ (by omega)]
    exact hg _ (.inl rfl)

/-- A cell of an owned row of pointers. -/
theorem own_cell {w : World} {base g n cap : Nat} {L : List Nat} (h : w.ownsRow base 26 1 (.slice (some ⟨g, 0, none⟩) n cap) n (L.map pb)) {i : Nat} (hi : i < n) : w.cell? ⟨g, i, none⟩ = some (pb (L.getD i 0)) := by
  have hl : L.length = n := by have := h.1; simpa using this
  rw [h.cellAt i (by omega)]
  simp [List.getD_eq_getElem?_getD, hl, hi]

theorem info26t : (Yba.prog.info? 26).map (fun i => (i.zero, i.size, i.bytes)) = some (some (.pointer none), 1, 8) := by kernel_rfl

/-- 'make([]*request, 0, m)'. -/
theorem make_zero (m : Nat) (hm : m ≤ 1024) (w : World) : (Instr.makeSlice 25 (.int .i64 0) (.int .i64 (m : Int))).run Yba.prog w = .ok (.slice (some ⟨w.heap.size, 0, none⟩) 0 m) (w.alloc (.cells (madeCells #[.pointer none] m) 26)) := by
  obtain ⟨i, hi, hzz⟩ := Option.map_eq_some_iff.1 info26t
  simp only [Prod.mk.injEq] at hzz
  obtain ⟨hz, hs, hb⟩ := hzz
  have hr := run_make (P := Yba.prog) w 25 26 i (.pointer none) Yba.underlying25 hi hz .i64 .i64 0 m (Int.le_refl _) (by omega) (by rw [hb]; omega) (by omega)
  simp only [Int.toNat_natCast, hs, Nat.mul_one, Int.toNat_zero] at hr
  exact hr

/-- THE START: the two lists laid, the two arrays made. -/
theorem two_start (w : World) (m : Nat) (hm : m ≤ 1024) (wr : World)
    (e : wr = (((w.alloc (.cells #[.pointer none, .pointer none] 28)).alloc (.cells #[.pointer none, .pointer none] 28)).alloc (.cells (madeCells #[.pointer none] m) 26)).alloc (.cells (madeCells #[.pointer none] m) 26)) :
    Base w w.heap.size [] [] wr ∧ wr.ownsRow (w.heap.size + 2) 26 1 (.slice (some ⟨w.heap.size + 2, 0, none⟩) 0 m) 0 [] ∧ wr.ownsRow (w.heap.size + 2) 26 1 (.slice (some ⟨w.heap.size + 3, 0, none⟩) 0 m) 0 [] := by
  have hb : ∀ k, (((w.heap.push (.cells #[.pointer none, .pointer none] 28)).push (.cells #[.pointer none, .pointer none] 28)).push (.cells (madeCells #[.pointer none] m) 26)).push (.cells (madeCells #[.pointer none] m) 26) = wr.heap → wr.heap[k]? =
      if k = w.heap.size + 3 then some (.cells (madeCells #[.pointer none] m) 26) else if k = w.heap.size + 2 then some (.cells (madeCells #[.pointer none] m) 26) else if k = w.heap.size + 1 then some (.cells #[.pointer none, .pointer none] 28) else
        if k = w.heap.size then some (.cells #[.pointer none, .pointer none] 28) else w.heap[k]? := fun k hk => by
    rw [← hk]
    simp only [Array.getElem?_push, Array.size_push]
  have hh := fun k => hb k (by rw [e]; rfl)
  have hsz : wr.heap.size = w.heap.size + 4 := by rw [e]; simp
  have h0 : wr.heap[w.heap.size]? = some (.cells #[.pointer none, .pointer none] 28) := by rw [hh]; simp
  have h1 : wr.heap[w.heap.size + 1]? = some (.cells #[.pointer none, .pointer none] 28) := by rw [hh]; simp
  have h2 : wr.heap[w.heap.size + 2]? = some (.cells (madeCells #[.pointer none] m) 26) := by rw [hh]; simp
  have h3 : wr.heap[w.heap.size + 3]? = some (.cells (madeCells #[.pointer none] m) 26) := by rw [hh]; simp
  have hlink : ∀ c b, wr.heap[b]? = some (.cells #[.pointer none, .pointer none] 28) → Linked wr c b [] := fun c b hb =>
    ⟨by simp [World.cell?, hb], by simp [World.cell?, hb], fun i hi => absurd hi (by simp), fun i hi => absurd hi (by simp)⟩
  refine ⟨⟨List.nodup_nil, List.nodup_nil, fun b hb => hb, fun b hb => absurd hb (by simp), fun b hb => absurd hb (by simp), by omega, hlink 0 _ h0, hlink 1 _ h1, ?_, fun b hb => absurd hb (by simp), ?_⟩, ?_, ?_⟩
  · intro b hb o
    simp only [List.mem_cons, List.not_mem_nil, or_false] at hb
    rcases hb with rfl | rfl
    · simp [World.frozen?, h0]
    · simp [World.frozen?, h1]
  · subst e
    exact ⟨rfl, rfl, rfl, by simp; omega, fun k hk => by rw [hh, if_neg (by omega), if_neg (by omega), if_neg (by omega), if_neg (by omega)]⟩
  · exact ⟨rfl, .inr ⟨_, _, _, rfl, by omega, h2, Nat.zero_le _, by unfold maxLen; omega, by simp [size_madeCells], by simp⟩⟩
  · exact ⟨rfl, .inr ⟨_, _, _, rfl, by omega, h3, Nat.zero_le _, by unfold maxLen; omega, by simp [size_madeCells], by simp⟩⟩

end Go.Proofs.Ybulkchec
