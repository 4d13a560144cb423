/- THE WALK OF LawS4165CScript (6). -/
import Derived.Test.YbulkchfsGood
import Derived.Deep.CutBlock
namespace Go.Proofs.Ybulkchfs
open Go.RowKit Go.Lib
set_option linter.unusedVariables false
set_option linter.unusedSimpArgs false
attribute [local go_sem ↓] ldI_eq ldC_eq stI_eq stC_eq bxI_eq bxC_eq nwI_eq nwC_eq bdC_eq bsI_eq eqI_eq neI_eq egI_eq lkM_eq
attribute [local go_sem] load_id load_contact store_id store_contact box_id box_contact new_id new_contact build_contact build_ids eq_id ne_id guard_id guard_id'
attribute [local go_sem] arr?_drew arr?_drewN arr?_alloc_past arr?_alloc_at arr?_setCell arr?_setA arr?_setA_same can?_drew can?_drewN can?_alloc_past can?_alloc_at can?_setCell can?_setA cell_setA frozen_setA size_setA agg_aL agg_cL size_aL size_cL length_aL length_cL
attribute [local go_sem] cell_up arr?_up frozen_up

theorem id_of_contact' {w : World} {b o : Nat} {F : Nat → Int} (h : arr? w 24 b o = some (cL F)) : arr? w 20 b o = some (aL F) := by
  obtain ⟨hl, hr⟩ := of_arr? h
  refine arr?_of (length_aL _) (fun j v hj => hr j v ?_)
  unfold cL
  rw [List.getElem?_append_left (List.getElem?_eq_some_iff.1 hj).1]; exact hj
theorem var_contact' (w : World) (F : Nat → Int) : arr? (setA (w.alloc (.cells (cL zeroF).toArray 73)) w.heap.size 0 (cL F)) 24 w.heap.size 0 = some (cL F) ∧ Below w.heap.size w (setA (w.alloc (.cells (cL zeroF).toArray 73)) w.heap.size 0 (cL F)) ∧ (setA (w.alloc (.cells (cL zeroF).toArray 73)) w.heap.size 0 (cL F)).heap.size = w.heap.size + 1 :=
  ⟨arr?_setA_same _ _ _ _ _ (length_cL _) (can?_alloc_at _ _ _ _ _ _ rfl (by simp [length_cL])), below_setA ((Below.refl _ w).alloc (Nat.le_refl _) _) _ _ _ (Nat.le_refl _), by rw [size_setA]; simp⟩

/-- Replied once more: with what becomes of the lookup's blocks. -/
theorem replied_own {w0 W : World} {bl : Nat} {L : St} {sf t : Int} {kn : Nat} (h : Good w0 W bl L sf t kn) (hkn : kn ≤ 1000) (x : Int) (e zb zn zcap : Nat) (ad : Option Addr) (Z : Nat → Int) (had : 0 < zcap → ad = some ⟨zb, 0, none⟩) (hfind : findK L.K x = some e) (hpend : L.S e = 1) (hzn : zn ≤ 100000)
    (hrow : RowW W 24 zb zn zcap (conts Z)) (hbyte : ∀ j, j < zn → 0 ≤ Z j ∧ Z j ≤ 255) (hzo : 0 < zcap → ¬ Own bl L zb) (hans : L.answered ≤ 10000) (hact : -100000 ≤ L.active ∧ L.active ≤ 100000) :
    Calls Yba.prog 24 #[pb bl, cV (idF x), .slice ad zn zcap] W fun r W' => r = .returned (.tuple #[]) ∧ ∃ L', Good w0 W' bl L' sf t kn ∧ After W.heap.size L L' e (L.D e + 1) (foldP L Z (min kn zn)) ∧ Chg (Own bl L) W W' ∧ ∀ k, Own bl L' k → Own bl L k ∨ W.heap.size ≤ k := by
  refine (replied_any W bl L x e zb zn zcap kn ad Z had h.rep h.k hkn hfind hpend hzn hrow hbyte hzo ⟨h.ans, hans⟩ hact (by rw [h.out]; exact hact)).mono ?_
  rintro r W' ⟨hr, L1, hG, hR, hC⟩
  rw [foldP_answered] at hG
  obtain ⟨r1, r2, r3, r4, r5, r6, r7, r8, r9, r10, r11⟩ := hG.rest
  obtain ⟨i0, hi0, hE0, hX0⟩ := h.rep.back x e hfind
  have he : e < W.heap.size := by rw [← hE0]; exact (h.rep.ent i0 hi0).lt
  have hT : L1.T e = L.T e := by have := (hG.old i0 hi0).2.2.2; rw [show ({ L with answered := L.answered + 1 } : St).E i0 = e from hE0] at this; exact this
  have hOwn : ∀ k, Own bl (L1.ended e L.active L.out) k → Own bl L k ∨ W.heap.size ≤ k := by
    intro k hk
    rcases hk with hk | hk | ⟨hk1, hk2⟩ | ⟨i, hi, hk⟩
    · exact .inl (.inl hk)
    · exact .inl (.inr (.inl (hk.trans r1)))
    · have hk1' : 0 < L1.cap := hk1
      have hk2' : k = L1.bs := hk2
      rcases hG.row with ⟨a1, a2⟩ | a1 | a1
      · exact .inl (.inr (.inr (.inl ⟨a2, hk2'.trans a1⟩)))
      · right; omega
      · omega
    · have hk' : k = L1.E i := hk
      rcases hG.from' i hi with ⟨j, hj, a1⟩ | ⟨_, a1⟩
      · exact .inl (.inr (.inr (.inr ⟨j, hj, hk'.trans a1⟩)))
      · right; omega
  refine ⟨hr, L1.ended e L.active L.out, ⟨hR, ?_, h.below.trans (hC.below h.below.size (fun k hk ho => by have := h.fresh k ho; omega)), r2.trans h.self', r3.trans h.t', r4.trans h.k, ?_, ?_, ?_, ?_⟩, ⟨hG.n, hG.N, hG.adv, ?_, ?_, hG.oldK, hG.unk, ?_, hG.has, ?_, rfl, r10⟩, hC, hOwn⟩
  · intro k hk
    have hws := h.below.size
    rcases hOwn k hk with h1 | h1
    · exact h.fresh k h1
    · omega
  · show L1.drawn = L1.k
    rw [r7, r4]; exact h.drawn
  · show L.out - 1 = L.active - 1
    rw [h.out]
  · intro i hi
    show upd L1.S e 3 (L1.E i) ≠ 5 ∧ upd L1.S e 3 (L1.E i) ≠ 2
    by_cases hne : L1.E i = e
    · rw [hne, upd_same]; omega
    · rw [upd_ne _ _ hne]
      rcases hG.from' i hi with ⟨j, hj, a1⟩ | ⟨a1, _⟩
      · rw [a1, (hG.old j hj).2.1]; exact h.st j hj
      · rw [a1]; omega
  · show 0 ≤ L1.answered
    have := h.ans
    rw [r10]; show 0 ≤ L.answered + 1; omega
  · show (if L1.T e = L1.adv then L1.stalled + 1 else L1.stalled) = _
    rw [hT, hG.adv, hG.stalled]
  · intro y hy
    obtain ⟨b, h1, h2, h3, h4⟩ := hG.new y hy
    obtain ⟨i, hi, hEi, _⟩ := hR.back y b h1
    refine ⟨b, i, h1, hi, hEi.symm, ?_, h3⟩
    show upd L1.S e 3 b = 0
    rw [upd_ne _ _ (by omega)]; exact h2
  · intro i hi hne
    obtain ⟨a1, a2, a3, a4⟩ := hG.old i hi
    refine ⟨?_, a1⟩
    show upd L1.S e 3 (L.E i) = L.S (L.E i)
    rw [upd_ne _ _ hne]; exact a2
  · show upd L1.S e 3 e = 3
    exact upd_same _ _ _

theorem foldP_len (L : St) (Z : Nat → Int) : ∀ m, (foldP L Z m).new.length ≤ m
  | 0 => Nat.le_refl _
  | m + 1 => by
    have ih := foldP_len L Z m
    show (stepP L (foldP L Z m) (Z m)).new.length ≤ m + 1
    unfold stepP
    split
    · omega
    · split <;> (simp only [List.length_append, List.length_cons, List.length_nil]; omega)

/-- Pairwise distinct blocks that have been queried are at most as many as Queries counts. -/
theorem cntQ_ge (L : St) : ∀ (n : Nat) (R : List Nat), R.Nodup → (∀ b, b ∈ R → L.S b ≠ 0 ∧ ∃ i, i < n ∧ L.E i = b) → R.length ≤ cntQ L n
  | 0, R, _, h => by
    cases R with
    | nil => exact Nat.le_refl _
    | cons b r =>
      obtain ⟨_, i, hi, _⟩ := h b (List.mem_cons_self ..)
      omega
  | n + 1, R, hd, h => by
    by_cases hm : L.E n ∈ R
    · have h1 : (R.erase (L.E n)).length ≤ cntQ L n := by
        refine cntQ_ge L n _ (hd.erase _) (fun b hb => ?_)
        obtain ⟨hne, hbR⟩ := (hd.mem_erase_iff).1 hb
        obtain ⟨h2, i, hi, hE⟩ := h b hbR
        refine ⟨h2, i, ?_, hE⟩
        rcases Nat.lt_or_ge i n with h3 | h3
        · exact h3
        · have : i = n := by omega
          subst this
          exact absurd hE.symm hne
      rw [List.length_erase_of_mem hm] at h1
      show R.length ≤ cntQ L n + if L.S (L.E n) = 0 then 0 else 1
      rw [if_neg (h _ hm).1]
      omega
    · have h1 : R.length ≤ cntQ L n := by
        refine cntQ_ge L n R hd (fun b hb => ?_)
        obtain ⟨h2, i, hi, hE⟩ := h b hb
        refine ⟨h2, i, ?_, hE⟩
        rcases Nat.lt_or_ge i n with h3 | h3
        · exact h3
        · have : i = n := by omega
          subst this
          rw [← hE] at hb
          exact absurd hb hm
      show R.length ≤ cntQ L n + _
      omega

/-- THE LOOKUP AFTER c REPLIES. -/
structure Run (w0 W : World) (bl : Nat) (L : St) (sf t : Int) (kn c : Nat) : Prop where
  good : Good w0 W bl L sf t kn
  ans : L.answered = (c : Int)
  fst : c = 0 → ∀ i, i < L.n → L.S (L.E i) ≠ 3
  reps : ∃ R : List Nat, R.Nodup ∧ R.length = c ∧ ∀ b, b ∈ R → L.S b = 3 ∧ ∃ i, i < L.n ∧ L.E i = b

/-- THE BATCH THAT IS LEFT: bm contacts at bad, the ids l, each pending. -/
structure Bt (W : World) (bl : Nat) (L : St) (bad : Option Addr) (bm bcap : Nat) (l : List Int) : Prop where
  len : l.length = bm
  le : bm ≤ bcap
  at' : 0 < bm → ∃ bb o, bad = some ⟨bb, o, none⟩ ∧ bb < W.heap.size ∧ ¬ Own bl L bb ∧ ∀ j, j < bm → arr? W 24 bb (o + j * 24) = some (cL (idF (l.getD j 0)))
  pend : ∀ x, x ∈ l → ∃ e, findK L.K x = some e ∧ L.S e = 1
  nodup : l.Nodup

theorem Run.new {w0 W W' : World} {bl : Nat} {L : St} {sf t : Int} {kn c : Nat} (h : Run w0 W bl L sf t kn c) (hb : Below W.heap.size W W') : Run w0 W' bl L sf t kn c := { h with good := h.good.new hb }
theorem Bt.new {W W' : World} {bl : Nat} {L : St} {bad : Option Addr} {bm bcap : Nat} {l : List Int} (h : Bt W bl L bad bm bcap l) (hb : Below W.heap.size W W') : Bt W' bl L bad bm bcap l :=
  ⟨h.len, h.le, fun hp =>
    let ⟨bb, o, h1, h2, h3, h4⟩ := h.at' hp
    ⟨bb, o, h1, Nat.lt_of_lt_of_le h2 hb.size, h3, fun j hj => (arr_of_heap (hb.block _ h2) _ _).trans (h4 j hj)⟩, h.pend, h.nodup⟩

/-- Next. -/
theorem run_next {w0 W : World} {bl : Nat} {L : St} {sf t : Int} {kn c : Nat} (h : Run w0 W bl L sf t kn c) (hkn : kn ≤ 1000) (hact : -100000 ≤ L.active ∧ L.active ≤ 100000) :
    Calls Yba.prog 18 #[pb bl] W fun r W' => ∃ (m cap : Nat) (ad : Option Addr) (L' : St) (l : List Int), r = .returned (.slice ad m cap) ∧ m ≤ kn ∧ L'.active = L.active + m ∧ Run w0 W' bl L' sf t kn c ∧ Bt W' bl L' ad m cap l := by
  refine (good_next h.good hkn hact).mono ?_
  rintro r W' ⟨bb, m, cap, ad, Y, L', rfl, had, hmk, hrow, hbb, hgood, hask, hchg⟩
  have hs := hask.same
  have hE : L'.E = L.E := by rw [hs]
  have hX : L'.X = L.X := by rw [hs]
  have hn : L'.n = L.n := by rw [hs]
  have hK : L'.K = L.K := by rw [hs]
  have hOwn : ∀ k, Own bl L' k → Own bl L k := fun k hk => by rw [hs] at hk; exact hk
  refine ⟨m, cap, ad, L', (List.range m).map Y, rfl, hmk, by rw [hs], ⟨hgood, by rw [hs]; exact h.ans, fun hc i hi => ?_, ?_⟩, ⟨by simp, hrow.le, fun hp => ?_, fun x hx => ?_, ?_⟩⟩
  · rw [hE]
    rw [hn] at hi
    rcases hask.turn i hi with h1 | ⟨_, h1⟩
    · rw [h1]; exact h.fst hc i hi
    · rw [h1]; omega
  · obtain ⟨R, h1, h2, h3⟩ := h.reps
    refine ⟨R, h1, h2, fun b hb => ?_⟩
    obtain ⟨h4, i, hi, h5⟩ := h3 b hb
    refine ⟨?_, i, by rw [hn]; exact hi, by rw [hE]; exact h5⟩
    rcases hask.turn i hi with h6 | ⟨h6, _⟩
    · rw [h5] at h6; rw [h6]; exact h4
    · rw [h5] at h6; omega
  · have hcap : 0 < cap := by have := hrow.le; omega
    refine ⟨bb, 0, had hcap, hrow.lt (by omega) hcap, fun ho => ?_, fun j hj => ?_⟩
    · have := h.good.rep.own_lt (hOwn bb ho)
      have := hbb hcap
      omega
    · rw [Nat.zero_add, hrow.arr hj]
      show some (cL (idF (Y j))) = _
      simp [List.getD_eq_getElem?_getD, hj]
  · obtain ⟨j, hj, rfl⟩ := List.mem_map.1 hx
    obtain ⟨i, hi, h1, _, h2⟩ := hask.pick j (List.mem_range.1 hj)
    refine ⟨L.E i, ?_, h2⟩
    rw [h1]
    have := hgood.rep.led i (by rw [hn]; exact hi)
    rw [hE, hX] at this
    exact this
  · show List.Pairwise (· ≠ ·) (List.map Y (List.range m))
    rw [List.pairwise_map]
    exact (List.pairwise_lt_range (n := m)).imp_of_mem (fun {a b} ha hb hlt => hask.apart a b hlt (List.mem_range.1 hb))

/-- Replied, by the first of the batch. -/
theorem run_replied {w0 W : World} {bl : Nat} {L : St} {sf t : Int} {kn c : Nat} (h : Run w0 W bl L sf t kn c) (hkn : kn ≤ 1000) (hc : c ≤ 1000) (hact : -100000 ≤ L.active ∧ L.active ≤ 100000) {bad : Option Addr} {bm bcap : Nat} {x : Int} {l : List Int} (hb : Bt W bl L bad bm bcap (x :: l))
    (zb zn zcap : Nat) (zad : Option Addr) (Z : Nat → Int) (hzad : 0 < zcap → zad = some ⟨zb, 0, none⟩) (hzn : zn ≤ 100000) (hrow : RowW W 24 zb zn zcap (conts Z)) (hbyte : ∀ j, j < zn → 0 ≤ Z j ∧ Z j ≤ 255) (hzo : 0 < zcap → ¬ Own bl L zb) (bad' : Option Addr) (hbad : 1 < bm → ∀ bb o, bad = some ⟨bb, o, none⟩ → bad' = some ⟨bb, o + 24, none⟩) :
    Calls Yba.prog 24 #[pb bl, cV (idF x), .slice zad zn zcap] W fun r W' => r = .returned (.tuple #[]) ∧ ∃ L' e, Run w0 W' bl L' sf t kn (c + 1) ∧ Bt W' bl L' bad' (bm - 1) (bcap - 1) l ∧ L'.active = L.active - 1 ∧ L.n ≤ L'.n ∧ L'.n ≤ L.n + min kn zn ∧ findK L'.K x = some e ∧ L'.S e = 3 ∧ (∃ i, i < L'.n ∧ L'.E i = e) ∧ Chg (Own bl L) W W' := by
  obtain ⟨e, hfind, hpend⟩ := hb.pend x (List.mem_cons_self ..)
  refine (replied_own h.good hkn x e zb zn zcap zad Z hzad hfind hpend hzn hrow hbyte hzo (by rw [h.ans]; omega) hact).mono ?_
  rintro r W' ⟨rfl, L', hG, hA, hC, hO⟩
  obtain ⟨ie, hie, hEe, hXe⟩ := h.good.rep.back x e hfind
  have hlen := foldP_len L Z (min kn zn)
  obtain ⟨je, hje, hEje⟩ := hA.has ie hie
  refine ⟨rfl, L', e, ⟨hG, by rw [hA.answered, h.ans]; simp, fun h0 => absurd h0 (by omega), ?_⟩, ⟨?_, ?_, fun hp => ?_, fun y hy => ?_, (List.nodup_cons.1 hb.nodup).2⟩, hA.active, by rw [hA.n]; omega, by rw [hA.n]; omega, hA.oldK x e hfind, hA.se, ⟨je, hje, hEje.trans hEe⟩, hC⟩
  · obtain ⟨R, h1, h2, h3⟩ := h.reps
    have heR : e ∉ R := fun hm => by
      have := (h3 e hm).1
      rw [hpend] at this
      omega
    refine ⟨e :: R, List.nodup_cons.2 ⟨heR, h1⟩, by simp [h2], fun b hb' => ?_⟩
    rcases List.mem_cons.1 hb' with rfl | hb'
    · exact ⟨hA.se, je, hje, hEje.trans hEe⟩
    · obtain ⟨h4, i, hi, h5⟩ := h3 b hb'
      obtain ⟨j, hj, h6⟩ := hA.has i hi
      have hne : L.E i ≠ e := fun h7 => heR (by rw [← h7, h5]; exact hb')
      have h7 := (hA.old i hi hne).1
      rw [h5] at h7
      exact ⟨by rw [h7]; exact h4, j, hj, h6.trans h5⟩
  · have := hb.len
    simp only [List.length_cons] at this
    omega
  · have := hb.le
    omega
  · have hbl := hb.len
    simp only [List.length_cons] at hbl
    obtain ⟨bb, o, h1, h2, h3, h4⟩ := hb.at' (by omega)
    refine ⟨bb, o + 24, hbad (by omega) bb o h1, Nat.lt_of_lt_of_le h2 hC.size, fun ho => ?_, fun j hj => ?_⟩
    · rcases hO bb ho with h5 | h5
      · exact h3 h5
      · omega
    · have h5 := h4 (j + 1) (by omega)
      have h6 : o + (j + 1) * 24 = o + 24 + j * 24 := by omega
      rw [h6] at h5
      rw [arr_of_heap (hC.block _ h2 h3), h5]
      rfl
  · obtain ⟨e', h1, h2⟩ := hb.pend y (List.mem_cons_of_mem _ hy)
    obtain ⟨i, hi, h3, h4⟩ := h.good.rep.back y e' h1
    have hne : L.E i ≠ e := fun h5 => by
      have hxy : x ≠ y := fun h6 => (List.nodup_cons.1 hb.nodup).1 (by rw [h6]; exact hy)
      rw [h3] at h5
      subst h5
      exact hxy (hXe.symm.trans h4)
    have h5 := (hA.old i hi hne).1
    rw [h3] at h5
    exact ⟨e', hA.oldK y e' h1, by rw [h5]; exact h2⟩

/-- A slice of slices of bytes that came in. -/
structure Grid (w : World) (ra : Option Addr) (rn : Nat) (A : Nat → Option Addr) (N C : Nat → Nat) (B : Nat → Nat → Int) : Prop where
  at' : 0 < rn → ∃ b o, ra = some ⟨b, o, none⟩ ∧ b < w.heap.size ∧ ∀ i, i < rn → w.cell? ⟨b, o + i, none⟩ = some (.slice (A i) (N i) (C i))
  each : ∀ i, i < rn → Bytes w (A i) (N i) (B i)

/-! ### batch[1:] -/
def slC (x : Value) (lo : Option Value) : Sem Value := Instr.sliceAt 59 x lo none none
theorem slC_eq (x : Value) (lo : Option Value) : Instr.sliceAt 59 x lo none none = slC x lo := rfl
theorem slice_one (w : World) (bb o bm bcap : Nat) (h : 1 ≤ bm) (hle : bm ≤ bcap) :
    (slC (.slice (some ⟨bb, o, none⟩) bm bcap) (some (.int .i64 1))).run Yba.prog w = .ok (.slice (if bcap = 1 then some ⟨bb, o, none⟩ else some ⟨bb, o + 24, none⟩) (bm - 1) (bcap - 1)) w := by
  have h1 : (1 : Int) ≤ (bm : Int) := by omega
  unfold slC
  by_cases hc : bcap = 1
  · subst hc
    go_simp
  · go_simp

theorem map_size {w : World} {r : Nat} {K : List (Int × Nat)} (h : MapIs w r K) : ∃ es ck, w.heap[r]? = some (.map es ck) ∧ es.size = K.length := by
  obtain ⟨es, ck, h1, h2⟩ := h
  refine ⟨es, ck, h1, ?_⟩
  have := congrArg List.length h2
  simpa using this
theorem t78 : Yba.prog.underlying 78 = some (.map 62 74) := by kernel_rfl
theorem len_map {w : World} {r : Nat} {K : List (Int × Nat)} (h : MapIs w r K) : (Builtin.len_ #[78] 3 #[.map (some r)]).run Yba.prog w = .ok (.int .i64 (K.length : Int)) w := by
  obtain ⟨es, ck, h1, h2⟩ := map_size h
  rw [← h2]
  simp [Builtin.len_, run_underlying t78, getObj, Sem.run, h1, goInt]
attribute [local go_sem ↓] slC_eq

set_option maxRecDepth 100000 in
set_option maxHeartbeats 40000000 in
theorem script_core (w : World) (sf t kb ab : Int) (a4 : Option Addr) (n4 cap4 : Nat) (B4 : Nat → Int) (ra : Option Addr) (rn rcap : Nat) (A : Nat → Option Addr) (N C : Nat → Nat) (B : Nat → Nat → Int) (h4 : Bytes w a4 n4 B4) (h5 : Grid w ra rn A N C B) (hn4 : n4 ≤ 512) (hrn : rn ≤ 256)
    (hs : 0 ≤ sf ∧ sf ≤ 255) (ht : 0 ≤ t ∧ t ≤ 255) (hkb : 0 ≤ kb ∧ kb ≤ 255) (hab : 0 ≤ ab ∧ ab ≤ 255) :
    Calls Yba.prog 6 #[.int .u8 sf, .int .u8 t, .int .u8 kb, .int .u8 ab, .slice a4 n4 cap4, .slice ra rn rcap] w fun e w' => e = .returned (.bool true) ∧ Below w.heap.size w w' := by
  obtain ⟨kn, hkn⟩ : ∃ kn : Nat, (kn : Int) = 1 + kb % 20 := ⟨(1 + kb % 20).toNat, by omega⟩
  have hk20 : 1 ≤ kn ∧ kn ≤ 20 := by omega
  have HNew : Hid (Calls Yba.prog 17 #[.int .u8 sf, .int .u8 t, .int .u8 kb, .int .u8 ab, .slice a4 n4 cap4] w fun r w' => ∃ bl, r = .returned (pb bl) ∧ Hid (∃ L, Run w w' bl L sf t kn 0 ∧ L.active = 0)) := by
    refine (good_new w sf t kb ab a4 n4 cap4 B4 h4 hn4 hs ht hkb hab kn hkn).mono ?_
    rintro r w' ⟨bl, L, h1, h2, h3, h4', h5'⟩
    exact ⟨bl, h1, L, ⟨h2, h4', fun _ i hi => by rw [h5' i hi]; omega, [], List.nodup_nil, rfl, fun b hb => absurd hb (by simp)⟩, h3⟩
  have HGr : Hid (Grid w ra rn A N C B) := h5
  have HK : Hid (1 ≤ kn ∧ kn ≤ 20) := hk20
  have hd4 : decide ((512 : Int) < (n4 : Int)) = false := by simp; omega
  have hd5 : decide ((256 : Int) < (rn : Int)) = false := by simp; omega
  clear h4 h5 hs ht hkb hab hkn hk20
  go_enter Yba.func6, Yba.ntmps6
  go_upto_block 0 with fail
  clear hd4 hd5
  go_cut [13] from 33 to 44 (fun _ wc => wc = w ∧ ∀ i, i < rn → N i ≤ 512)
  case first =>
    go_wp2
    go_loopw [13] (fun ix wr => ∃ (i : Nat), ix = .int .i64 (i : Int) ∧ i ≤ rn ∧ wr = w ∧ ∀ j, j < i → N j ≤ 512) (fun ix _ => rn - (RowKit.intOf ix).toNat)
    case atStart => exact ⟨0, rfl, Nat.zero_le _, rfl, fun j hj => absurd hj (by omega)⟩
    case round =>
      obtain ⟨i, rfl, hin, rfl, hno⟩ := hrel
      have HNo : Hid (∀ j, j < i → N j ≤ 512) := hno
      clear hno
      by_cases hlt : i < rn
      · obtain ⟨b, o, rfl, hbw, hcell⟩ := HGr.out.at' (by omega)
        have hc := hcell i hlt
        have hi1 : (0 : Int) ≤ (i : Int) := by omega
        have hi2 : (i : Int) < (rn : Int) := by omega
        obtain ⟨ni, hni⟩ : ∃ ni, ni = N i := ⟨_, rfl⟩
        rw [← hni] at hc
        have HNi : Hid (ni = N i) := hni
        clear hcell hni
        by_cases hbig : 512 < ni
        · go_wp2
          go_ret
          exact ⟨rfl, Below.refl _ _⟩
        · go_wp2
          refine ⟨⟨i + 1, by simp, by omega, trivial, fun j hj => ?_⟩, by simp only [RowKit.intOf]; omega⟩
          by_cases hji : j = i
          · rw [hji, ← HNi.out]; omega
          · exact HNo.out j (by omega)
      · obtain rfl : i = rn := by omega
        go_wp2
        go_meet
        exact ⟨rfl, HNo.out⟩
  case rest =>
    obtain ⟨rfl, hN⟩ := hcut
    rename World => w
    have HN : Hid (∀ i, i < rn → N i ≤ 512) := hN
    clear hN
    go_upto_block 2 with (go_at_call 17; refine HNew.out.mono ?_; rintro _ W0 ⟨bl, rfl, HR0⟩)
    clear HNew
    go_cut [15, 16, 17] from 51 to 153 (fun s15 _ _ wc => ∃ (c : Nat) (L : St), s15 = .int .i64 (c : Int) ∧ c ≤ 256 ∧ Run w wc bl L sf t kn c)
    case first =>
      go_wp2
      go_loopg [15, 16, 17] rn (fun g s15 s16 s17 wr => ∃ (i c : Nat) (L : St) (bad : Option Addr) (bm bcap : Nat) (l : List Int), g = rn - i ∧ i ≤ rn ∧ c ≤ i ∧ s15 = .int .i64 (c : Int) ∧ s16 = .slice bad bm bcap ∧ s17 = .int .i64 (i : Int) ∧ Run w wr bl L sf t kn c ∧ Bt wr bl L bad bm bcap l ∧ -(i : Int) ≤ L.active ∧ L.active ≤ 20 * (i : Int))
      case atStart =>
        obtain ⟨L, h1, h2⟩ := HR0.out
        exact ⟨0, 0, L, none, 0, 0, [], rfl, Nat.zero_le _, Nat.le_refl _, rfl, rfl, rfl, h1, ⟨rfl, Nat.le_refl _, fun h => absurd h (by omega), fun x hx => absurd hx (by simp), List.nodup_nil⟩, by rw [h2]; simp, by rw [h2]; simp⟩
      case round =>
        obtain ⟨i, c, L, bad, bm, bcap, l, hg, hin, hci, rfl, rfl, rfl, hrun, hbt, hact⟩ := hrel
        have HRun : Hid (Run w wr bl L sf t kn c) := hrun
        have HBt : Hid (Bt wr bl L bad bm bcap l) := hbt
        have HAct : Hid (-(i : Int) ≤ L.active ∧ L.active ≤ 20 * (i : Int)) := hact
        have HGk : Hid (gk = rn - i) := hg
        clear hrun hbt hact hg HR0
        by_cases hlt : i < rn
        · have HNX : Hid (Calls Yba.prog 18 #[pb bl] wr fun r W' => ∃ (m cap : Nat) (ad : Option Addr), r = .returned (.slice ad m cap) ∧ Hid (∃ (L' : St) (l : List Int), m ≤ kn ∧ L'.active = L.active + m ∧ Run w W' bl L' sf t kn c ∧ Bt W' bl L' ad m cap l)) := by
            have h1 := HK.out
            have h2 := HAct.out
            refine (run_next HRun.out (by omega) (by omega)).mono ?_
            rintro r W' ⟨m, cap, ad, L', l', e1, e2, e3, e4, e5⟩
            exact ⟨m, cap, ad, e1, L', l', e2, e3, e4, e5⟩
          go_upto_if 59 with fail
          go_cut [16] from 57 to 64 (fun s16 wc => ∃ (L1 : St) (bad1 : Option Addr) (bm1 bcap1 : Nat) (l1 : List Int), s16 = .slice bad1 bm1 bcap1 ∧ 0 < bm1 ∧ Run w wc bl L1 sf t kn c ∧ Bt wc bl L1 bad1 bm1 bcap1 l1 ∧ -(i : Int) ≤ L1.active ∧ L1.active ≤ 20 * (i : Int) + 20)
          case first =>
            by_cases hb0 : bm = 0
            · subst hb0
              go_upto_region 16 with (go_at_call 18; refine HNX.out.mono ?_; rintro _ W' ⟨m, cap, ad, rfl, HA⟩)
              by_cases hm0 : m = 0
              · subst hm0
                go_wp2
                go_meet
                obtain ⟨L', l', _, _, h1, _⟩ := HA.out
                exact ⟨c, L', rfl, by omega, h1⟩
              · go_wp2
                go_meet
                obtain ⟨L', l', h0, h1, h2, h3⟩ := HA.out
                have h4 := HK.out
                have h5 := HAct.out
                exact ⟨L', _, _, _, l', rfl, by omega, h2, h3, by omega, by omega⟩
            · go_wp2
              go_meet
              have h5 := HAct.out
              exact ⟨L, _, _, _, l, rfl, by omega, HRun.out, HBt.out, by omega, by omega⟩
          case rest =>
            obtain ⟨L1, bad1, bm1, bcap1, l1, rfl, hbm, hrun1, hbt1, hact1⟩ := hcut
            rename World => W1
            clear HNX HRun HBt HAct
            cases l1 with
            | nil => exact absurd hbt1.len (by simp; omega)
            | cons x l2 =>
              obtain ⟨bb, o, hbad, hbbw, hbo, harr⟩ := hbt1.at' hbm
              subst hbad
              have c0 : arr? W1 24 bb o = some (cL (idF x)) := by
                have := harr 0 hbm
                rw [Nat.zero_mul, Nat.add_zero] at this
                exact this
              have hsl : ∀ w', Sem.run Yba.prog (slC (.slice (some ⟨bb, o, none⟩) bm1 bcap1) (some (.int .i64 1))) w' = .ok (.slice (if bcap1 = 1 then some ⟨bb, o, none⟩ else some ⟨bb, o + 24, none⟩) (bm1 - 1) (bcap1 - 1)) w' := fun w' => slice_one w' bb o bm1 bcap1 hbm hbt1.le
              obtain ⟨bad2, hbad2⟩ : ∃ bad2 : Option Addr, bad2 = if bcap1 = 1 then some ⟨bb, o, none⟩ else some ⟨bb, o + 24, none⟩ := ⟨_, rfl⟩
              rw [← hbad2] at hsl
              have HBad : Hid (1 < bm1 → ∀ bb' o', (some ⟨bb, o, none⟩ : Option Addr) = some ⟨bb', o', none⟩ → bad2 = some ⟨bb', o' + 24, none⟩) := fun h1 bb' o' h2 => by
                have := hbt1.le
                rw [hbad2, if_neg (by omega)]
                simp only [Option.some.injEq, Addr.mk.injEq] at h2
                rw [h2.1, h2.2.1]
              have HRun1 : Hid (Run w W1 bl L1 sf t kn c) := hrun1
              have HBt1 : Hid (Bt W1 bl L1 (some ⟨bb, o, none⟩) bm1 bcap1 (x :: l2)) := hbt1
              have HAct1 : Hid (-(i : Int) ≤ L1.active ∧ L1.active ≤ 20 * (i : Int) + 20) := hact1
              have hb1 : (0 : Int) < (bm1 : Int) := by omega
              clear hrun1 hbt1 hact1 hbad2 harr hbo hbbw
              go_upto_region 18 with fail
              obtain ⟨Wc, hWc⟩ : ∃ Wc, Wc = setA (W1.alloc (.cells (cL zeroF).toArray 73)) W1.heap.size 0 (cL (idF x)) := ⟨_, rfl⟩
              obtain ⟨bc, hbc⟩ : ∃ bc, bc = W1.heap.size := ⟨_, rfl⟩
              rw [← hWc, ← hbc]
              have hvc := var_contact' W1 (idF x)
              rw [← hWc] at hvc
              have HVc : Hid (arr? Wc 24 bc 0 = some (cL (idF x)) ∧ Below W1.heap.size W1 Wc ∧ Wc.heap.size = bc + 1 ∧ W1.heap.size = bc) := ⟨by rw [hbc]; exact hvc.1, hvc.2.1, by rw [hbc]; exact hvc.2.2, hbc.symm⟩
              clear hWc hbc hvc c0
              go_upto_region 19 with fail
              clear hsl
              obtain ⟨b5, o5, hra, hb5w, hcell⟩ := HGr.out.at' (by omega)
              subst hra
              obtain ⟨ai, hai⟩ : ∃ ai, ai = A i := ⟨_, rfl⟩
              obtain ⟨ni, hni⟩ : ∃ ni, ni = N i := ⟨_, rfl⟩
              obtain ⟨ci, hci'⟩ : ∃ ci, ci = C i := ⟨_, rfl⟩
              have hBwc : Below w.heap.size w Wc := (HRun1.out.new HVc.out.2.1).good.below
              have c5 : Wc.cell? ⟨b5, o5 + i, none⟩ = some (.slice ai ni ci) := by rw [hai, hni, hci']; exact (hBwc.cell (p := ⟨b5, o5 + i, none⟩) hb5w).trans (hcell i hlt)
              have hn512 : ni ≤ 512 := by rw [hni]; exact HN.out i hlt
              have hbytes : Bytes w ai ni (B i) := by rw [hai, hni]; exact HGr.out.each i hlt
              have HBy : Hid (∀ j, j < ni → 0 ≤ B i j ∧ B i j ≤ 255) := hbytes.byte
              have HCon : Hid (Calls Yba.prog 20 #[.slice ai ni ci] Wc fun r w' => ∃ zb zad zcap, r = .returned (.slice zad ni zcap) ∧ Hid ((0 < zcap → zad = some ⟨zb, 0, none⟩) ∧ RowW w' 24 zb ni zcap (conts (B i)) ∧ (0 < zcap → Wc.heap.size ≤ zb) ∧ Below Wc.heap.size Wc w')) := contacts_any Wc ai ni ci (B i) (hbytes.below hBwc (Nat.le_refl _)) hn512
              have hi1 : (0 : Int) ≤ (i : Int) := by omega
              have hi2 : (i : Int) < (rn : Int) := by omega
              clear hai hni hci' hBwc hbytes hcell hb5w
              go_upto_region 20 with (go_at_call 20; refine HCon.out.mono ?_; rintro _ W2 ⟨zb, zad, zcap, rfl, HZC⟩)
              have hrun2 : Run w W2 bl L1 sf t kn c := (HRun1.out.new HVc.out.2.1).new HZC.out.2.2.2
              have hbt2 : Bt W2 bl L1 (some ⟨bb, o, none⟩) bm1 bcap1 (x :: l2) := (HBt1.out.new HVc.out.2.1).new HZC.out.2.2.2
              have k47 := hrun2.good.rep.fields.known
              have k40 := hrun2.good.rep.fields.k
              rw [hrun2.good.k] at k40
              have hln := len_map hrun2.good.rep.map
              rw [hrun2.good.rep.len] at hln
              have k17 : arr? W2 24 bc 0 = some (cL (idF x)) := (arr_of_heap (HZC.out.2.2.2.block _ (by have := HVc.out.2.2.1; omega)) _ _).trans HVc.out.1
              obtain ⟨mm, hmm⟩ : ∃ mm, mm = min kn ni := ⟨_, rfl⟩
              have HMM : Hid (mm = min kn ni) := hmm
              have HRun2 : Hid (Run w W2 bl L1 sf t kn c) := hrun2
              have HBt2 : Hid (Bt W2 bl L1 (some ⟨bb, o, none⟩) bm1 bcap1 (x :: l2)) := hbt2
              have hsm1 := hrun2.good.rep.small
              clear hrun2 hbt2 c5 HCon
              go_upto_if 87 with fail
              go_cut [21] from 84 to 89 (fun s21 wc => s21 = .int .i64 (mm : Int) ∧ wc = W2)
              case first =>
                by_cases hkl : ni < kn
                · have h1 : mm = ni := by omega
                  go_wp2
                  go_meet
                  exact ⟨by rw [h1], rfl⟩
                · have h1 : mm = kn := by omega
                  go_wp2
                  go_meet
                  exact ⟨by rw [h1], rfl⟩
              case rest =>
                obtain ⟨rfl, rfl⟩ := hcut
                rename World => W2
                have HREP : Hid (Calls Yba.prog 24 #[pb bl, cV (idF x), .slice zad ni zcap] W2 fun r W' => r = .returned (.tuple #[]) ∧ ∃ L' e, Hid (Run w W' bl L' sf t kn (c + 1)) ∧ Hid (Bt W' bl L' bad2 (bm1 - 1) (bcap1 - 1) l2) ∧ Hid (L'.active = L1.active - 1 ∧ L1.n ≤ L'.n ∧ L'.n ≤ L1.n + mm ∧ findK L'.K x = some e ∧ L'.S e = 3 ∧ (∃ i, i < L'.n ∧ L'.E i = e)) ∧ Hid (Chg (Own bl L1) W2 W')) := by
                  have h1 := HK.out
                  have h2 := HAct1.out
                  have hz := HZC.out
                  refine (run_replied HRun2.out (by omega) (by omega) (by omega) HBt2.out zb ni zcap zad (B i) hz.1 (by omega) hz.2.1 HBy.out (fun hc ho => ?_) bad2 HBad.out).mono ?_
                  · have h3 := HRun1.out.good.rep.own_lt ho
                    have h4 := hz.2.2.1 hc
                    have h5 := HVc.out
                    omega
                  · rintro r W' ⟨hr, L', e, e1, e2, e3, e4, e5, e6, e7, e8, e9⟩
                    rw [← HMM.out] at e5
                    exact ⟨hr, L', e, e1, e2, ⟨e3, e4, e5, e6, e7, e8⟩, e9⟩
                clear k47 k40 hln hmm
                go_upto_region 25 with (go_at_call 24; refine HREP.out.mono ?_; rintro _ W3 ⟨rfl, L', e, HRun3, HBt3, HF3, HC3⟩)
                have hR3 := HRun3.out
                have hf3 := HF3.out
                have hln2 := len_map hR3.good.rep.map
                rw [hR3.good.rep.len] at hln2
                obtain ⟨n1, hn1⟩ : ∃ n1, n1 = L1.n := ⟨_, rfl⟩
                obtain ⟨n2, hn2⟩ : ∃ n2, n2 = L'.n := ⟨_, rfl⟩
                rw [← hn1]
                rw [← hn2] at hln2
                have d47 := hR3.good.rep.fields.known
                have d72 : W3.cell? ⟨bl, 72, none⟩ = some (.int .i64 ((c : Int) + 1)) := by
                  have := hR3.good.rep.fields.answered
                  rw [hR3.ans] at this
                  simpa using this
                obtain ⟨je, hje, hEje⟩ := hf3.2.2.2.2.2
                have hent := hR3.good.rep.ent je hje
                rw [hEje, hf3.2.2.2.2.1] at hent
                have d24 := hent.state
                have hbcn : ¬ Own bl L1 bc := fun ho => by
                  have h3 := HRun1.out.good.rep.own_lt ho
                  have h5 := HVc.out
                  omega
                have hbc2 : bc < W2.heap.size := by
                  have h5 := HVc.out
                  have h6 := HZC.out.2.2.2.size
                  omega
                have d17 : arr? W3 20 bc 0 = some (aL (idF x)) := id_of_contact' ((arr_of_heap (HC3.out.block _ hbc2 hbcn) _ _).trans k17)
                have hs2 := hR3.good.rep.small
                have hg1 : decide ((mm : Int) < (n2 : Int) - (n1 : Int)) = false := by
                  have := hf3.2.2.1
                  simp only [decide_eq_false_iff_not]
                  omega
                have hg2 : decide ((n2 : Int) < (n1 : Int)) = false := by
                  have := hf3.2.1
                  simp only [decide_eq_false_iff_not]
                  omega
                have hb12 : n1 ≤ 256 ∧ n2 ≤ 256 := by omega
                have hg3 : ¬ n2 < n1 := by
                  have := hf3.2.1
                  omega
                have hlk : ∀ n, Sem.run Yba.prog (lkM (.map (some L'.br)) (aV (idF x))) (W3.drewN n) = .ok (pb e) (W3.drewN n) := fun n => look_known (w := W3.drewN n) (hR3.good.rep.map.of_block rfl) x |>.trans (by rw [hf3.2.2.2.1]; rfl)
                have HN2 : Hid (n1 = L1.n ∧ n2 = L'.n) := ⟨hn1, hn2⟩
                clear hR3 hf3 hn1 hn2 hje hEje hent hbcn hbc2 hs2 k17 hsm1
                go_upto_region 28 with fail
                go_quiet (fail)
                clear hlk d17 hg1 hg2 hg3
                go_upto_region 31 with fail
                obtain ⟨W4, hW4⟩ : ∃ W4, W4 = W3.drewN nq := ⟨_, rfl⟩
                rw [← hW4]
                have HRun4 : Hid (Run w W4 bl L' sf t kn (c + 1)) := by
                  rw [hW4]
                  exact HRun3.out.new (Below.drewN (Below.refl _ _) _)
                have HBt4 : Hid (Bt W4 bl L' bad2 (bm1 - 1) (bcap1 - 1) l2) := by
                  rw [hW4]
                  exact HBt3.out.new (Below.drewN (Below.refl _ _) _)
                have hR4 := HRun4.out.good.rep
                obtain ⟨sad, hsad⟩ : ∃ sad : Option Addr, sad = if L'.cap = 0 then none else some ⟨L'.bs, 0, none⟩ := ⟨_, rfl⟩
                have d46 : W4.cell? ⟨bl, 46, none⟩ = some (.slice sad n2 L'.cap) := by
                  have := hR4.fields.shortlist
                  unfold slV at this
                  rw [← hsad, ← HN2.out.2] at this
                  exact this
                have f47 := hR4.fields.known
                have sbl : bl < W4.heap.size := hR4.fields.lt
                have hln4 : ∀ g, Sem.run Yba.prog (Builtin.len_ #[78] 3 #[.map (some L'.br)]) (up W4 g) = .ok (.int .i64 (n2 : Int)) (up W4 g) := fun g => by
                  have := len_map ((hR4.below (up_below W4 g)).map)
                  rw [hR4.len, ← HN2.out.2] at this
                  exact this
                have HSO : Hid (∀ g, Calls Yba.prog 25 #[pb bl] (up W4 g) fun r w' => r = .returned (.bool true) ∧ Below (up W4 g).heap.size (up W4 g) w') := fun g => sorted_any (up W4 g) bl L' (hR4.below (up_below W4 g))
                clear hW4 hR4 hsad d47 d72 d24 hln2
                refine wp_region_up (by kernel_rfl) (by kernel_rfl) ?_
                repeat (go_big_quiet_step ((go_at_call 25; exact up_call (HSO.out _))))
                refine wpQuiet_nil ?_
                intro _ hw
                obtain ⟨g, rfl⟩ := hw
                go_wp2
                go_roundg (rn - (i + 1))
                case measure =>
                  have := HGk.out
                  omega
                case rel =>
                  have h1 := HAct1.out
                  have h2 := HF3.out.1
                  exact ⟨i + 1, c + 1, L', bad2, bm1 - 1, bcap1 - 1, l2, rfl, by omega, by omega, by simp, rfl, by simp, HRun4.out.new (up_below W4 g), HBt4.out.new (up_below W4 g), by omega, by omega⟩
        · obtain rfl : i = rn := by omega
          go_wp2
          go_meet
          exact ⟨c, L, rfl, by omega, HRun.out⟩
    case rest =>
      obtain ⟨c, L, rfl, hc, hrun⟩ := hcut
      rename World => W5
      have HRun : Hid (Run w W5 bl L sf t kn c) := hrun
      have HNR : Hid (Calls Yba.prog 26 #[pb bl] W5 fun r w' => ∃ F, r = .returned (.tuple #[cV F, .bool (decide ((0 : Int) < (c : Int)))]) ∧ Hid (Below W5.heap.size W5 w')) := by
        refine (nearest_any W5 bl L hrun.good.rep).mono ?_
        rintro r w' ⟨F, ok, rfl, h1, h2⟩
        refine ⟨F, ?_, h2⟩
        have hok : ok = decide ((0 : Int) < (c : Int)) := by
          by_cases h0 : c = 0
          · have : ¬ (0 : Int) < (c : Int) := by omega
            rw [decide_eq_false this]
            cases hk : ok with
            | false => rfl
            | true =>
              obtain ⟨i, hi, h3⟩ := h1.1 hk
              exact absurd h3 (hrun.fst h0 i hi)
          · have : (0 : Int) < (c : Int) := by omega
            rw [decide_eq_true this]
            refine h1.2 ?_
            obtain ⟨R, a1, a2, a3⟩ := hrun.reps
            cases R with
            | nil => simp at a2; omega
            | cons b r =>
              obtain ⟨b1, i, hi, b2⟩ := a3 b (List.mem_cons_self ..)
              exact ⟨i, hi, by rw [b2]; exact b1⟩
        rw [hok]
      have hq : c ≤ cntQ L L.n := by
        obtain ⟨R, a1, a2, a3⟩ := hrun.reps
        rw [← a2]
        refine cntQ_ge L L.n R a1 (fun b hb => ?_)
        obtain ⟨b1, b2⟩ := a3 b hb
        exact ⟨by rw [b1]; omega, b2⟩
      clear hrun HR0
      go_upto_region 34 with (go_at_call 26; refine HNR.out.mono ?_; rintro _ W6 ⟨F, rfl, HB6⟩)
      obtain ⟨W7, hW7⟩ : ∃ W7, W7 = setA (W6.alloc (.cells (cL zeroF).toArray 73)) W6.heap.size 0 (cL F) := ⟨_, rfl⟩
      rw [← hW7]
      have HRun7 : Hid (Run w W7 bl L sf t kn c) := by
        rw [hW7]
        exact (HRun.out.new HB6.out).new (var_contact' W6 F).2.1
      obtain ⟨cq, hcq⟩ : ∃ cq, cq = cntQ L L.n := ⟨_, rfl⟩
      have HQR : Hid (Calls Yba.prog 27 #[pb bl] W7 fun r w' => r = .returned (.int .i64 (cq : Int)) ∧ Hid (Below w.heap.size w w')) := by
        refine (queries_any W7 bl L HRun7.out.good.rep).mono ?_
        rintro r w' ⟨h1, h2⟩
        rw [hcq]
        exact ⟨h1, (HRun7.out.new h2).good.below⟩
      rw [← hcq] at hq
      have hqd : decide ((c : Int) ≤ (cq : Int)) = true := by simp; omega
      clear hW7 hcq
      by_cases h0 : c = 0
      · subst h0
        go_wp2_with (go_at_call 27; refine HQR.out.mono ?_; rintro _ W8 ⟨rfl, HB8⟩)
        go_ret
        exact ⟨rfl, HB8.out⟩
      · have hpos : decide ((0 : Int) < (c : Int)) = true := by simp; omega
        have hpos' : (0 : Int) < (c : Int) := by omega
        go_wp2_with (go_at_call 27; refine HQR.out.mono ?_; rintro _ W8 ⟨rfl, HB8⟩)
        go_ret
        exact ⟨rfl, HB8.out⟩
end Go.Proofs.Ybulkchfs
