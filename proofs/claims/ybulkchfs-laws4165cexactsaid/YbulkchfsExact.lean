/- THE WALK OF LawS4165CExact (5). -/
import Derived.Test.YbulkchfsGood
import Derived.Deep.CutBlock
namespace Go.Proofs.Ybulkchfs
open Go.RowKit Go.Lib
set_option linter.unusedVariables false
set_option linter.unusedSimpArgs false
attribute [local go_sem ↓] ldI_eq ldC_eq stI_eq stC_eq bxI_eq bxC_eq nwI_eq nwC_eq bdC_eq bsI_eq eqI_eq neI_eq egI_eq lkM_eq
attribute [local go_sem] load_id load_contact store_id store_contact box_id box_contact new_id new_contact build_contact build_ids eq_id ne_id guard_id guard_id'
attribute [local go_sem] arr?_drew arr?_drewN arr?_alloc_past arr?_alloc_at arr?_setCell arr?_setA arr?_setA_same can?_drew can?_drewN can?_alloc_past can?_alloc_at can?_setCell can?_setA cell_setA frozen_setA size_setA agg_aL agg_cL size_aL size_cL length_aL length_cL
attribute [local go_sem] cell_up arr?_up frozen_up

/-- What the law holds ahead of its loops: the lookup, the contact picked, its entry, the nodes. -/
structure Pre (w W : World) (bl bc e zb zn zcap : Nat) (zad : Option Addr) (Z : Nat → Int) (L : St) (sf t x : Int) (kn : Nat) : Prop where
  good : Good w W bl L sf t kn
  c : arr? W 24 bc 0 = some (cL (idF x))
  find : findK L.K x = some e
  pend : L.S e = 1
  row : RowW W 24 zb zn zcap (conts Z)
  zad : 0 < zcap → zad = some ⟨zb, 0, none⟩
  zo : 0 < zcap → ¬ Own bl L zb
  co : ¬ Own bl L bc
  ans : L.answered = 0
  act : 1 ≤ L.active ∧ L.active ≤ 1000

theorem id_of_contact {w : World} {b o : Nat} {F : Nat → Int} (h : arr? w 24 b o = some (cL F)) : arr? w 20 b o = some (aL F) := by
  obtain ⟨hl, hr⟩ := of_arr? h
  refine arr?_of (length_aL _) (fun j v hj => hr j v ?_)
  unfold cL
  rw [List.getElem?_append_left (List.getElem?_eq_some_iff.1 hj).1]; exact hj

/-- A variable of a contact, of an id: laid and stored. -/
theorem var_contact (w : World) (F : Nat → Int) : arr? (setA (w.alloc (.cells (cL zeroF).toArray 73)) w.heap.size 0 (cL F)) 24 w.heap.size 0 = some (cL F) ∧ Below w.heap.size w (setA (w.alloc (.cells (cL zeroF).toArray 73)) w.heap.size 0 (cL F)) ∧ (setA (w.alloc (.cells (cL zeroF).toArray 73)) w.heap.size 0 (cL F)).heap.size = w.heap.size + 1 :=
  ⟨arr?_setA_same _ _ _ _ _ (length_cL _) (can?_alloc_at _ _ _ _ _ _ rfl (by simp [length_cL])), below_setA ((Below.refl _ w).alloc (Nat.le_refl _) _) _ _ _ (Nat.le_refl _), by rw [size_setA]; simp⟩
theorem var_id (w : World) (F : Nat → Int) : arr? (setA (w.alloc (.cells (aL zeroF).toArray 62)) w.heap.size 0 (aL F)) 20 w.heap.size 0 = some (aL F) ∧ Below w.heap.size w (setA (w.alloc (.cells (aL zeroF).toArray 62)) w.heap.size 0 (aL F)) ∧ (setA (w.alloc (.cells (aL zeroF).toArray 62)) w.heap.size 0 (aL F)).heap.size = w.heap.size + 1 ∧ can? (setA (w.alloc (.cells (aL zeroF).toArray 62)) w.heap.size 0 (aL F)) 20 w.heap.size 0 = true :=
  ⟨arr?_setA_same _ _ _ _ _ (length_aL _) (can?_alloc_at _ _ _ _ _ _ rfl (by simp [length_aL])), below_setA ((Below.refl _ w).alloc (Nat.le_refl _) _) _ _ _ (Nat.le_refl _), by rw [size_setA]; simp, by rw [can?_setA]; exact can?_alloc_at _ _ _ _ _ _ rfl (by simp [length_aL])⟩

theorem cdist_hid (A B : Nat → Int) (w : World) : Calls Yba.prog 22 #[aV A, aV B] w fun e w' => e = .returned (aV (xorF A B)) ∧ Hid (Below w.heap.size w w') := cdist_any A B w
theorem ccmp_hid (A B : Nat → Int) (w : World) : Calls Yba.prog 23 #[aV A, aV B] w fun e w' => e = .returned (.int .i64 (cmpF A B)) ∧ Hid (Below w.heap.size w w') := ccmp_any A B w

/-- THE FIRST LOOP, after i rounds: the ids taken up lie at nb, the nearest distance in b31. -/
structure Lp (L : St) (Z : Nat → Int) (W8 : World) (b31 i : Nat) (ad : Option Addr) (nb ncap : Nat) (wr : World) : Prop where
  row : RowW wr 20 nb (foldP L Z i).new.length ncap (idsOf (foldP L Z i).new)
  ad' : ad = if ncap = 0 then none else some ⟨nb, 0, none⟩
  new : 0 < ncap → W8.heap.size ≤ nb
  near : arr? wr 20 b31 0 = some (aL (foldP L Z i).N)
  can : can? wr 20 b31 0 = true
  chg : Chg (fun k => k = b31) W8 wr
  len : (foldP L Z i).new.length ≤ i
  adv : L.adv ≤ (foldP L Z i).adv ∧ (foldP L Z i).adv ≤ L.adv + i

theorem foldP_skip {L : St} {Z : Nat → Int} {i : Nat} (hs : skips L (foldP L Z i) (Z i) = true) : foldP L Z (i + 1) = foldP L Z i := by
  show stepP L (foldP L Z i) (Z i) = _
  unfold stepP
  rw [if_pos hs]
theorem foldP_turn {L : St} {Z : Nat → Int} {i : Nat} (hs : skips L (foldP L Z i) (Z i) = false) (hc : cmpF (idF (dst (Z i) L.t)) (foldP L Z i).N < 0) : foldP L Z (i + 1) = ⟨(foldP L Z i).new ++ [Z i], idF (dst (Z i) L.t), (foldP L Z i).adv + 1, true⟩ := by
  show stepP L (foldP L Z i) (Z i) = _
  unfold stepP
  rw [if_neg (by rw [hs]; simp), if_pos hc]
theorem foldP_take {L : St} {Z : Nat → Int} {i : Nat} (hs : skips L (foldP L Z i) (Z i) = false) (hc : ¬ cmpF (idF (dst (Z i) L.t)) (foldP L Z i).N < 0) : foldP L Z (i + 1) = ⟨(foldP L Z i).new ++ [Z i], (foldP L Z i).N, (foldP L Z i).adv, (foldP L Z i).reset⟩ := by
  show stepP L (foldP L Z i) (Z i) = _
  unfold stepP
  rw [if_neg (by rw [hs]; simp), if_neg hc]

theorem can_of_below {w w' : World} {B n b o : Nat} (h : Below B w w') (hb : b < B) : can? w' n b o = can? w n b o := can_of_heap (h.block b hb) _ _

theorem Lp.skip {L : St} {Z : Nat → Int} {W8 : World} {b31 i : Nat} {ad : Option Addr} {nb ncap : Nat} {wr w' : World} (h : Lp L Z W8 b31 i ad nb ncap wr) (hs : skips L (foldP L Z i) (Z i) = true) (hb : Below wr.heap.size wr w') (h31 : b31 < W8.heap.size) : Lp L Z W8 b31 (i + 1) ad nb ncap w' := by
  have e := foldP_skip hs
  have h31' : b31 < wr.heap.size := Nat.lt_of_lt_of_le h31 h.chg.size
  refine ⟨?_, h.ad', h.new, ?_, (can_of_below hb h31').trans h.can, h.chg.trans (Chg.ofNew (S := fun k => k = b31) hb) (fun _ _ x => x), ?_, ?_⟩
  · rw [e]; exact h.row.keep (fun hc => hb.block _ (h.row.lt (by omega) hc))
  · rw [e]; exact (arr_of_heap (hb.block _ h31') _ _).trans h.near
  · rw [e]; have := h.len; omega
  · rw [e]; have := h.adv; omega

/-- One id more, without an advance and with one. -/
theorem Lp.take {L : St} {Z : Nat → Int} {W8 : World} {b31 i : Nat} {ad : Option Addr} {nb ncap nb' ncap' : Nat} {wr wu w9 w' : World} (h : Lp L Z W8 b31 i ad nb ncap wr) (hs : skips L (foldP L Z i) (Z i) = false) (h31 : b31 < W8.heap.size)
    (hu : Below wr.heap.size wr wu) (hrow : RowW w9 20 nb' ((foldP L Z i).new ++ [Z i]).length ncap' (idsOf ((foldP L Z i).new ++ [Z i]))) (hpos : 0 < ncap') (hcase : nb' = nb ∧ 0 < ncap ∨ wu.heap.size ≤ nb') (hchg : Chg (fun k => k = nb ∧ 0 < ncap) wu w9) (hb : Below w9.heap.size w9 w') (hc : ¬ cmpF (idF (dst (Z i) L.t)) (foldP L Z i).N < 0) :
    Lp L Z W8 b31 (i + 1) (some ⟨nb', 0, none⟩) nb' ncap' w' := by
  have e := foldP_take hs hc
  have hw8 := h.chg.size
  have hwu := hu.size
  have hw9 := hchg.size
  have h31' : b31 < wr.heap.size := Nat.lt_of_lt_of_le h31 hw8
  have hb1 : w'.heap[b31]? = wr.heap[b31]? := ((hb.block _ (by omega)).trans (hchg.block _ (by omega) (fun ⟨a1, a2⟩ => by have := h.new a2; omega))).trans (hu.block _ h31')
  have hnb : 0 < ncap → W8.heap.size ≤ nb := h.new
  refine ⟨?_, by rw [if_neg (by omega)], fun _ => ?_, ?_, (can_of_heap hb1 _ _).trans h.can, ?_, ?_, ?_⟩
  · rw [e]; exact hrow.keep (fun hc => hb.block _ (hrow.lt (by omega) hc))
  · rcases hcase with ⟨a1, a2⟩ | a1
    · rw [a1]; exact h.new a2
    · omega
  · rw [e]; exact (arr_of_heap hb1 _ _).trans h.near
  · refine ((h.chg.trans (Chg.ofNew (S := fun k => k = b31) hu) (fun _ _ x => x)).trans hchg (fun k hk ⟨a1, a2⟩ => ?_)).trans (Chg.ofNew (S := fun k => k = b31) hb) (fun _ _ x => x)
    have := h.new a2
    omega
  · rw [e]; have := h.len; simp; omega
  · rw [e]; have := h.adv; simp only; omega

theorem Lp.turn {L : St} {Z : Nat → Int} {W8 : World} {b31 i : Nat} {ad : Option Addr} {nb ncap nb' ncap' : Nat} {wr wu w9 w' : World} (h : Lp L Z W8 b31 i ad nb ncap wr) (hs : skips L (foldP L Z i) (Z i) = false) (h31 : b31 < W8.heap.size)
    (hu : Below wr.heap.size wr wu) (hrow : RowW w9 20 nb' ((foldP L Z i).new ++ [Z i]).length ncap' (idsOf ((foldP L Z i).new ++ [Z i]))) (hpos : 0 < ncap') (hcase : nb' = nb ∧ 0 < ncap ∨ wu.heap.size ≤ nb') (hchg : Chg (fun k => k = nb ∧ 0 < ncap) wu w9) (hb : Below w9.heap.size w9 w') (hc : cmpF (idF (dst (Z i) L.t)) (foldP L Z i).N < 0) :
    Lp L Z W8 b31 (i + 1) (some ⟨nb', 0, none⟩) nb' ncap' (setA w' b31 0 (aL (idF (dst (Z i) L.t)))) := by
  have e := foldP_turn hs hc
  have hw8 := h.chg.size
  have hwu := hu.size
  have hw9 := hchg.size
  have h31' : b31 < wr.heap.size := Nat.lt_of_lt_of_le h31 hw8
  have hb1 : w'.heap[b31]? = wr.heap[b31]? := ((hb.block _ (by omega)).trans (hchg.block _ (by omega) (fun ⟨a1, a2⟩ => by have := h.new a2; omega))).trans (hu.block _ h31')
  have hcan : can? w' 20 b31 0 = true := (can_of_heap hb1 _ _).trans h.can
  have hne : nb' ≠ b31 := by
    rcases hcase with ⟨a1, a2⟩ | a1
    · have := h.new a2; omega
    · omega
  refine ⟨?_, by rw [if_neg (by omega)], fun _ => ?_, ?_, by rw [can?_setA]; exact hcan, ?_, ?_, ?_⟩
  · rw [e]; exact hrow.keep (fun hc => (heap_setA _ _ _ _ _ hne).trans (hb.block _ (hrow.lt (by omega) hc)))
  · rcases hcase with ⟨a1, a2⟩ | a1
    · rw [a1]; exact h.new a2
    · omega
  · rw [e]; exact arr?_setA_same _ _ _ _ _ (length_aL _) hcan
  · refine Chg.setA (((h.chg.trans (Chg.ofNew (S := fun k => k = b31) hu) (fun _ _ x => x)).trans hchg (fun k hk ⟨a1, a2⟩ => ?_)).trans (Chg.ofNew (S := fun k => k = b31) hb) (fun _ _ x => x)) _ _ _ (fun _ => rfl)
    have := h.new a2
    omega
  · rw [e]; have := h.len; simp; omega
  · rw [e]; have := h.adv; simp only; omega

/-- THE SECOND LOOP: the ids beyond the first m that are new to the lookup lie at bk. -/
structure Bd (L : St) (p : Pn) (W9 : World) (l : List Int) (ad : Option Addr) (bk bcap : Nat) (wr : World) : Prop where
  row : RowW wr 20 bk l.length bcap (idsOf l)
  ad' : ad = if bcap = 0 then none else some ⟨bk, 0, none⟩
  new : 0 < bcap → W9.heap.size ≤ bk
  below : Below W9.heap.size W9 wr
  un : ∀ y, y ∈ l → findK L.K y = none ∧ y ∉ p.new

theorem Bd.keep {L : St} {p : Pn} {W9 : World} {l : List Int} {ad : Option Addr} {bk bcap : Nat} {wr w' : World} (h : Bd L p W9 l ad bk bcap wr) (hb : Below wr.heap.size wr w') : Bd L p W9 l ad bk bcap w' :=
  ⟨h.row.keep (fun hc => hb.block _ (h.row.lt (by omega) hc)), h.ad', h.new, h.below.trans (hb.mono h.below.size), h.un⟩

theorem eqF_self (F : Nat → Int) : eqF F F = true := by unfold eqF; simp

set_option maxRecDepth 100000 in
set_option maxHeartbeats 40000000 in
theorem exact_core (w : World) (sf t kb ab pick : Int) (a5 : Option Addr) (n5 cap5 : Nat) (B5 : Nat → Int) (a6 : Option Addr) (n6 cap6 : Nat) (B6 : Nat → Int) (h5 : Bytes w a5 n5 B5) (h6 : Bytes w a6 n6 B6) (hn5 : n5 ≤ 512) (hn6 : n6 ≤ 512)
    (hs : 0 ≤ sf ∧ sf ≤ 255) (ht : 0 ≤ t ∧ t ≤ 255) (hkb : 0 ≤ kb ∧ kb ≤ 255) (hab : 0 ≤ ab ∧ ab ≤ 255) (hp : 0 ≤ pick ∧ pick ≤ 255) :
    Calls Yba.prog 5 #[.int .u8 sf, .int .u8 t, .int .u8 kb, .int .u8 ab, .int .u8 pick, .slice a5 n5 cap5, .slice a6 n6 cap6] w fun e w' => e = .returned (.bool true) ∧ Below w.heap.size w w' := by
  obtain ⟨kn, hkn⟩ : ∃ kn : Nat, (kn : Int) = 1 + kb % 20 := ⟨(1 + kb % 20).toNat, by omega⟩
  have hk20 : 1 ≤ kn ∧ kn ≤ 20 := by omega
  have HNew : Hid (Calls Yba.prog 17 #[.int .u8 sf, .int .u8 t, .int .u8 kb, .int .u8 ab, .slice a5 n5 cap5] w fun r w' => ∃ bl, r = .returned (pb bl) ∧ Hid (∃ L, Good w w' bl L sf t kn ∧ L.active = 0 ∧ L.answered = 0)) := by
    refine (good_new w sf t kb ab a5 n5 cap5 B5 h5 hn5 hs ht hkb hab kn hkn).mono ?_
    rintro r w' ⟨bl, L, h1, h2, h3, h4, _⟩
    exact ⟨bl, h1, L, h2, h3, h4⟩
  have HNext : Hid (∀ bl w1, (∃ L, Good w w1 bl L sf t kn ∧ L.active = 0 ∧ L.answered = 0) → Calls Yba.prog 18 #[pb bl] w1 fun r w2 => ∃ bb m cap ad, r = .returned (.slice ad m cap) ∧ Hid (w.heap.size ≤ w1.heap.size ∧ ∃ L Y L', (0 < cap → ad = some ⟨bb, 0, none⟩) ∧ m ≤ kn ∧ RowW w2 24 bb m cap (conts Y) ∧ (0 < cap → w1.heap.size ≤ bb) ∧ Good w w2 bl L' sf t kn ∧ Asked L L' m Y ∧ L.active = 0 ∧ L.answered = 0 ∧ Rep w1 bl L) ∧ Hid (Below w.heap.size w w2)) := by
    rintro bl w1 ⟨L, h1, h2, h3⟩
    refine (good_next h1 (by omega) (by rw [h2]; omega)).mono ?_
    rintro r w2 ⟨bb, m, cap, ad, Y, L', e1, e2, e3, e4, e5, e6, e7, e8⟩
    exact ⟨bb, m, cap, ad, e1, ⟨h1.below.size, L, Y, L', e2, e3, e4, e5, e6, e7, h2, h3, h1.rep⟩, e6.below⟩
  have HB6 : Hid (Bytes w a6 n6 B6) := h6
  have HZ : Hid ((0 ≤ sf ∧ sf ≤ 255) ∧ (0 ≤ t ∧ t ≤ 255) ∧ 0 ≤ pick ∧ pick ≤ 255) := ⟨hs, ht, hp⟩
  have HK : Hid (1 ≤ kn ∧ kn ≤ 20) := hk20
  have hd5 : decide ((512 : Int) < (n5 : Int)) = false := by simp; omega
  have hd6 : decide ((512 : Int) < (n6 : Int)) = false := by simp; omega
  clear h5 h6 hs ht hkb hab hkn hp hk20
  go_enter Yba.func5, Yba.ntmps5
  go_upto_region 5 with (first | (go_at_call 17; refine HNew.out.mono ?_; rintro _ w1 ⟨bl, rfl, HG0⟩) | (go_at_call 18; refine (HNext.out _ _ HG0.out).mono ?_; rintro _ w2 ⟨bb, m, cap, ad, rfl, HA, HBel⟩))
  by_cases hm0 : m = 0
  · subst hm0
    go_wp2
    go_ret
    exact ⟨rfl, HBel.out⟩
  · obtain ⟨hw01, L0, Y, L, had, hmk, hrow, hbb, hgood, hask, hact0, hans0, hrep0⟩ := HA.out
    obtain ⟨q, hq⟩ : ∃ q : Nat, q = pick.toNat % m := ⟨_, rfl⟩
    have hqm : q < m := by rw [hq]; exact Nat.mod_lt _ (by omega)
    have hcap : 0 < cap := by have := hrow.le; omega
    obtain rfl := had hcap
    obtain ⟨x, hx⟩ : ∃ x, x = Y q := ⟨_, rfl⟩
    have hcx : arr? w2 24 bb (q * 24) = some (cL (idF x)) := by rw [hx]; exact hrow.arr hqm
    obtain ⟨i0, hi0, hY, hS0, hS1⟩ := hask.pick q hqm
    have hsame := hask.same
    have hL : L.n = L0.n ∧ L.E = L0.E ∧ L.X = L0.X ∧ L.answered = L0.answered ∧ L.active = L0.active + m := by rw [hsame]; exact ⟨rfl, rfl, rfl, rfl, rfl⟩
    obtain ⟨e, he⟩ : ∃ e, e = L0.E i0 := ⟨_, rfl⟩
    have hfind : findK L.K x = some e := by
      have := hgood.rep.led i0 (by rw [hL.1]; exact hi0)
      rw [hL.2.1, hL.2.2.1, ← hY, ← hx, ← he] at this
      exact this
    have hpend : L.S e = 1 := by rw [he]; exact hS1
    have hbl2 : bl < w2.heap.size := hgood.rep.fields.lt
    have hent : EntAt w2 e (L.X e) (L.S e) (L.D e) (L.T e) := by
      have := hgood.rep.ent i0 (by rw [hL.1]; exact hi0)
      rw [hL.2.1, ← he] at this
      exact this
    have helt : e < w2.heap.size := hent.lt
    have hpk : (wrap64 pick).tmod (m : Int) = (q : Int) := by
      have := HZ.out
      rw [IntWalk.wrap64_in _ (by omega), Int.tmod_eq_emod_of_nonneg this.2.2.1, hq, Int.natCast_emod, Int.toNat_of_nonneg this.2.2.1]
    have hq0 : (0 : Int) ≤ (q : Int) := by omega
    have hq1 : (q : Int) < (m : Int) := by omega
    have hmI : ¬ ((m : Int) = 0) := by omega
    obtain ⟨Wc, hWc⟩ : ∃ Wc, Wc = setA (w2.alloc (.cells (cL zeroF).toArray 73)) w2.heap.size 0 (cL (idF x)) := ⟨_, rfl⟩
    clear hq hx had
    clear hd5 hd6
    go_upto_region 8 with fail
    obtain ⟨bc, hbc⟩ : ∃ bc, bc = w2.heap.size := ⟨_, rfl⟩
    rw [← hWc, ← hbc]
    have hvc := var_contact w2 (idF x)
    rw [← hWc, ← hbc] at hvc
    obtain ⟨c17, hBc, hsc⟩ := hvc
    have c17i := id_of_contact c17
    have hBc' : Below w2.heap.size w2 Wc := by rw [← hbc]; exact hBc
    have hGc : Good w Wc bl L sf t kn := hgood.new hBc'
    have hentc : EntAt Wc e (L.X e) (L.S e) (L.D e) (L.T e) := hent.keep (hBc'.block _ helt)
    rw [hpend] at hentc
    have c24 := hentc.state
    have c25 := hentc.depth
    have c26 := hentc.sent
    have c47 := hGc.rep.fields.known
    have c72 := hGc.rep.fields.answered
    have c70 := hGc.rep.fields.active
    have c71 := hGc.rep.fields.out
    have c69 := hGc.rep.fields.stalled
    obtain ⟨sad, hsad⟩ : ∃ sad : Option Addr, sad = if L.cap = 0 then none else some ⟨L.bs, 0, none⟩ := ⟨_, rfl⟩
    have c46 : Wc.cell? ⟨bl, 46, none⟩ = some (.slice sad L.n L.cap) := by have := hGc.rep.fields.shortlist; unfold slV at this; rw [← hsad] at this; exact this
    have hlk : ∀ n, Sem.run Yba.prog (lkM (.map (some L.br)) (aV (idF x))) (Wc.drewN n) = .ok (pb e) (Wc.drewN n) := fun n => look_known (w := Wc.drewN n) (hGc.rep.map.of_block rfl) x |>.trans (by rw [hfind]; rfl)
    have HGc : Hid (Good w Wc bl L sf t kn) := hGc
    have HF : Hid (findK L.K x = some e ∧ L.S e = 1 ∧ L.answered = 0 ∧ (1 ≤ L.active ∧ L.active ≤ 1000)) := ⟨hfind, hpend, by rw [hL.2.2.2.1]; exact hans0, by have := HK.out; rw [hL.2.2.2.2, hact0]; omega⟩
    have HBC : Hid (bc + 1 = Wc.heap.size ∧ w2.heap.size = bc) := ⟨by rw [hsc, hbc], hbc.symm⟩
    have HEnt : Hid (EntAt Wc e (L.X e) 1 (L.D e) (L.T e)) := hentc
    have HOld : Hid (∀ k, Own bl L k → k < bc) := fun k hk => by rw [hbc]; exact hgood.rep.own_lt hk
    have HC17 : Hid (arr? Wc 24 bc 0 = some (cL (idF x))) := c17
    have hnn : ¬ ((1 : Int) = 0) := by omega
    clear hWc hbc hBc hBc' hsc hGc hentc hent helt hfind hpend hY hS0 hS1 hL hsame hask hgood hrow hcx hact0 hans0 hrep0 hpk hq0 hq1 hbb hsad HA hi0 he hcap
    go_quiet (fail)
    go_wp2
    go_quiet (fail)
    go_wp2
    go_quiet (fail)
    go_wp2
    go_quiet (fail)
    clear c24 c25 c26 c47 c72 c70 c71 c69 c46 hlk c17 c17i
    go_upto_region 15 with (go_at_call 19; refine (cid_hid _ _).mono ?_; rintro _ w3 ⟨rfl, HB3⟩)
    have hB3 : Below Wc.heap.size Wc w3 := ⟨HB3.out.os, HB3.out.tape, HB3.out.output, HB3.out.size, HB3.out.block⟩
    obtain ⟨W4, hW4⟩ : ∃ W4, W4 = setA (w3.alloc (.cells (aL zeroF).toArray 62)) w3.heap.size 0 (aL (idF sf)) := ⟨_, rfl⟩
    obtain ⟨b26, hb26⟩ : ∃ b26, b26 = w3.heap.size := ⟨_, rfl⟩
    rw [← hW4, ← hb26]
    have hv4 := var_id w3 (idF sf)
    rw [← hW4] at hv4
    have HV4 : Hid (arr? W4 20 b26 0 = some (aL (idF sf)) ∧ W4.heap.size = b26 + 1 ∧ Wc.heap.size ≤ b26 ∧ Below Wc.heap.size Wc W4) := ⟨by rw [hb26]; exact hv4.1, by rw [hb26]; exact hv4.2.2.1, by rw [hb26]; exact hB3.size, hB3.trans (hv4.2.1.mono hB3.size)⟩
    clear hW4 hb26 hv4 hB3 HB3
    go_upto_region 16 with (go_at_call 19; refine (cid_hid _ _).mono ?_; rintro _ w5 ⟨rfl, HB5⟩)
    obtain ⟨W6, hW6⟩ : ∃ W6, W6 = setA (w5.alloc (.cells (aL zeroF).toArray 62)) w5.heap.size 0 (aL (idF t)) := ⟨_, rfl⟩
    obtain ⟨b27, hb27⟩ : ∃ b27, b27 = w5.heap.size := ⟨_, rfl⟩
    rw [← hW6, ← hb27]
    have hv6 := var_id w5 (idF t)
    rw [← hW6] at hv6
    have HV6 : Hid (arr? W6 20 b27 0 = some (aL (idF t)) ∧ W6.heap.size = b27 + 1 ∧ W4.heap.size ≤ b27 ∧ Below W4.heap.size W4 W6) := ⟨by rw [hb27]; exact hv6.1, by rw [hb27]; exact hv6.2.2.1, by rw [hb27]; exact HB5.out.size, HB5.out.trans (hv6.2.1.mono HB5.out.size)⟩
    clear hW6 hb27 hv6 HB5
    have HCon : Hid (Calls Yba.prog 20 #[.slice a6 n6 cap6] W6 fun r w' => ∃ zb zad zcap, r = .returned (.slice zad n6 zcap) ∧ Hid ((0 < zcap → zad = some ⟨zb, 0, none⟩) ∧ RowW w' 24 zb n6 zcap (conts B6) ∧ (0 < zcap → W6.heap.size ≤ zb) ∧ Below W6.heap.size W6 w')) := by
      have hb : Below w.heap.size w W6 := (HGc.out.below.trans (HV4.out.2.2.2.mono HGc.out.below.size)).trans (HV6.out.2.2.2.mono (Nat.le_trans HGc.out.below.size HV4.out.2.2.2.size))
      exact contacts_any W6 a6 n6 cap6 B6 (HB6.out.below hb (Nat.le_refl _)) hn6
    go_upto_region 17 with (go_at_call 20; refine HCon.out.mono ?_; rintro _ W7 ⟨zb, zad, zcap, rfl, HZC⟩)
    have hB7 : Below Wc.heap.size Wc W7 := by
      have h4 := HV4.out
      have h6 := HV6.out
      exact (h4.2.2.2.trans (h6.2.2.2.mono h4.2.2.2.size)).trans (HZC.out.2.2.2.mono (Nat.le_trans h4.2.2.2.size h6.2.2.2.size))
    have hG7 : Good w W7 bl L sf t kn := HGc.out.new hB7
    have k40 := hG7.rep.fields.k
    rw [hG7.k] at k40
    obtain ⟨mm, hmm⟩ : ∃ mm, mm = min kn n6 := ⟨_, rfl⟩
    have HMM : Hid (mm = min kn n6) := hmm
    go_upto_if 130 with fail
    go_cut [29] from 126 to 132 (fun s29 wc => s29 = .int .i64 (mm : Int) ∧ wc = W7)
    case first =>
      by_cases hlt : n6 < kn
      · have h1 : mm = n6 := by omega
        go_wp2
        go_meet
        exact ⟨by rw [h1], rfl⟩
      · have h1 : mm = kn := by omega
        go_wp2
        go_meet
        exact ⟨by rw [h1], rfl⟩
    case rest =>
      obtain ⟨rfl, rfl⟩ := hcut
      rename World => W7
      have k48 := hG7.rep.fields.near
      have k68 := hG7.rep.fields.adv
      clear k40 hmm
      go_upto_region 22 with fail
      obtain ⟨W8, hW8⟩ : ∃ W8, W8 = setA (W7.alloc (.cells (aL zeroF).toArray 62)) W7.heap.size 0 (aL L.N) := ⟨_, rfl⟩
      obtain ⟨b31, hb31⟩ : ∃ b31, b31 = W7.heap.size := ⟨_, rfl⟩
      rw [← hW8, ← hb31]
      have hv8 := var_id W7 L.N
      rw [← hW8] at hv8
      obtain ⟨v1, v2, v3, v4⟩ := hv8
      have hG8 : Good w W8 bl L sf t kn := hG7.new v2
      have hbc1 := HBC.out
      have h4 := HV4.out
      have h6 := HV6.out
      have hz := HZC.out
      have hs67 := hz.2.2.2.size
      have HLT : Hid (bc < b26 ∧ b26 < b27 ∧ b27 < b31 ∧ (0 < zcap → b27 < zb ∧ zb < b31) ∧ W8.heap.size = b31 + 1) := by
        refine ⟨by omega, by omega, by omega, fun hc => ?_, by omega⟩
        have h1 := hz.2.2.1 hc
        have h2 := hz.2.1.lt (by omega) hc
        omega
      have hblk : ∀ k, k < Wc.heap.size → W8.heap[k]? = Wc.heap[k]? := fun k hk => (v2.block k (by have := hB7.size; omega)).trans (hB7.block k hk)
      have HV8 : Hid (arr? W8 20 b26 0 = some (aL (idF sf)) ∧ arr? W8 20 b27 0 = some (aL (idF t)) ∧ arr? W8 24 bc 0 = some (cL (idF x)) ∧ arr? W8 20 b31 0 = some (aL L.N) ∧ can? W8 20 b31 0 = true) := by
        refine ⟨?_, ?_, ?_, by rw [hb31]; exact v1, by rw [hb31]; exact v4⟩
        · exact (arr_of_heap ((v2.block _ (by omega)).trans ((hz.2.2.2.block _ (by omega)).trans (h6.2.2.2.block _ (by omega)))) _ _).trans h4.1
        · exact (arr_of_heap ((v2.block _ (by omega)).trans (hz.2.2.2.block _ (by omega))) _ _).trans h6.1
        · exact (arr_of_heap (hblk _ (by omega)) _ _).trans HC17.out
      have HR8 : Hid ((0 < zcap → zad = some ⟨zb, 0, none⟩) ∧ RowW W8 24 zb n6 zcap (conts B6)) := ⟨hz.1, hz.2.1.keep (fun hc => v2.block _ (hz.2.1.lt (by omega) hc))⟩
      have HE8 : Hid (EntAt W8 e (L.X e) 1 (L.D e) (L.T e)) := HEnt.out.keep (hblk _ HEnt.out.lt)
      have HG8 : Hid (Good w W8 bl L sf t kn) := hG8
      have k68' := hG8.rep.fields.adv
      have hmm20 : mm ≤ 20 := by have := HMM.out; have := HK.out; omega
      have hadv := hG8.rep.advs
      have hsmall := hG8.rep.small
      clear hW8 hb31 v1 v2 v3 v4 hG8 hbc1 h4 h6 hz hs67 hblk hG7 hB7 k48 k68 HZC HV4 HV6 HC17 HEnt HGc HCon HNew HNext HG0 HBel
      go_upto_block 0 with fail
      clear k68'
      go_cut [30, 32, 33, 34] from 141 to 181 (fun s30 s32 s33 _ wc => ∃ (ad : Option Addr) (nb ncap : Nat), s30 = .slice ad (foldP L B6 mm).new.length ncap ∧ s32 = .int .i64 (foldP L B6 mm).adv ∧ s33 = .bool (foldP L B6 mm).reset ∧ Lp L B6 W8 b31 mm ad nb ncap wc)
      case first =>
        go_wp2
        go_loopw [30, 32, 33, 34] (fun s30 s32 s33 ix wr => ∃ (i : Nat) (ad : Option Addr) (nb ncap : Nat), ix = .int .i64 (i : Int) ∧ i ≤ mm ∧ s30 = .slice ad (foldP L B6 i).new.length ncap ∧ s32 = .int .i64 (foldP L B6 i).adv ∧ s33 = .bool (foldP L B6 i).reset ∧ Lp L B6 W8 b31 i ad nb ncap wr) (fun _ _ _ ix _ => mm - (RowKit.intOf ix).toNat)
        case atStart => exact ⟨0, none, 0, 0, rfl, Nat.zero_le _, rfl, rfl, rfl, ⟨RowW.nil _ _ _ _, rfl, fun h => absurd h (by omega), HV8.out.2.2.2.1, HV8.out.2.2.2.2, Chg.refl _ _, Nat.le_refl _, ⟨Int.le_refl _, by show L.adv ≤ L.adv + 0; omega⟩⟩⟩
        case round =>
          obtain ⟨i, ad, nb, ncap, rfl, him, rfl, rfl, rfl, hlp⟩ := hrel
          have HLP : Hid (Lp L B6 W8 b31 i ad nb ncap wr) := hlp
          clear hlp
          by_cases hlt : i < mm
          · obtain ⟨p, hp⟩ : ∃ p, p = foldP L B6 i := ⟨_, rfl⟩
            rw [← hp]
            have HP : Hid (p = foldP L B6 i) := hp
            have hpa : 0 ≤ p.adv ∧ p.adv ≤ 300 := by have := HLP.out.adv; rw [← hp] at this; omega
            have hlen : p.new.length ≤ 20 := by have := HLP.out.len; rw [← hp] at this; omega
            have hn6' : i < n6 := by have := HMM.out; omega
            have hzc : 0 < zcap := by have := HR8.out.2.le; omega
            obtain rfl := HR8.out.1 hzc
            obtain ⟨z, hz⟩ : ∃ z, z = B6 i := ⟨_, rfl⟩
            have hlt8 := HLT.out
            have hzz := hlt8.2.2.2.1 hzc
            have hblk : ∀ k, k < b31 → wr.heap[k]? = W8.heap[k]? := fun k hk => HLP.out.chg.block k (by omega) (by omega)
            have hzi : arr? wr 20 zb (i * 24) = some (aL (idF z)) := by
              rw [hz]
              exact id_of_contact ((arr_of_heap (hblk _ hzz.2) _ _).trans (HR8.out.2.arr hn6'))
            have hi1 : (0 : Int) ≤ (i : Int) := by omega
            have hi2 : (i : Int) < (n6 : Int) := by omega
            have hi3 : (i : Int) < (mm : Int) := by omega
            have HZi : Hid (z = B6 i) := hz
            have HBlk : Hid (∀ k, k < b31 → wr.heap[k]? = W8.heap[k]?) := hblk
            clear hz hp hlt8 hzz hblk
            go_upto_region 28 with fail
            obtain ⟨Wb, hWb⟩ : ∃ Wb, Wb = setA (wr.alloc (.cells (aL zeroF).toArray 62)) wr.heap.size 0 (aL (idF z)) := ⟨_, rfl⟩
            obtain ⟨b35, hb35⟩ : ∃ b35, b35 = wr.heap.size := ⟨_, rfl⟩
            rw [← hWb, ← hb35]
            have hvb := var_id wr (idF z)
            rw [← hWb] at hvb
            have HVb : Hid (Below wr.heap.size wr Wb ∧ Wb.heap.size = wr.heap.size + 1 ∧ b35 = wr.heap.size) := ⟨hvb.2.1, hvb.2.2.1, hb35⟩
            have k35 : arr? Wb 20 b35 0 = some (aL (idF z)) := by rw [hb35]; exact hvb.1
            have hlt8 := HLT.out
            have hwr8 := HLP.out.chg.size
            have hblkb : ∀ k, k < b31 → Wb.heap[k]? = W8.heap[k]? := fun k hk => (hvb.2.1.block k (by omega)).trans (HBlk.out k hk)
            have k26 : arr? Wb 20 b26 0 = some (aL (idF sf)) := (arr_of_heap (hblkb _ (by omega)) _ _).trans HV8.out.1
            have hown : ∀ k, Own bl L k → Wb.heap[k]? = W8.heap[k]? := fun k hk => hblkb k (by have := HOld.out k hk; omega)
            have hRb : Rep Wb bl L := HG8.out.rep.keep hown
            have k47 := hRb.fields.known
            have s35 : b35 < Wb.heap.size := by omega
            have s26 : b26 < Wb.heap.size := by omega
            have sbl : bl < Wb.heap.size := hRb.fields.lt
            have hlk : ∀ g, Sem.run Yba.prog (lkM (.map (some L.br)) (aV (idF z))) (up Wb g) = .ok (ptOf (findK L.K z)) (up Wb g) := fun g => look_known (w := up Wb g) ((hRb.below (up_below Wb g)).map) z
            have HIN : Hid (∀ g, Calls Yba.prog 21 #[.slice ad p.new.length ncap, aV (idF z)] (up Wb g) fun r w' => r = .returned (.bool (p.new.contains z)) ∧ Below (up Wb g).heap.size (up Wb g) w') := fun g => by
              have hr := HLP.out.row
              rw [← HP.out] at hr
              refine in_any (up Wb g) ad nb ncap p.new z (hr.keep (fun hc => ?_)) (fun hc => ?_) (by omega)
              · have h1 := hr.lt (by omega) hc
                exact ((up_below Wb g).block _ (by omega)).trans (hvb.2.1.block _ h1)
              · rw [HLP.out.ad', if_neg (by omega)]
            have HSk : Hid (skips L (foldP L B6 i) (B6 i) = (z == sf || (findK L.K z).isSome || p.new.contains z)) := by
              show _ = _
              unfold skips
              rw [← HP.out, ← HZi.out, HG8.out.self']
            have HSkip : Hid (skips L (foldP L B6 i) (B6 i) = true → ∀ g, Lp L B6 W8 b31 (i + 1) ad nb ncap (up Wb g)) := fun h g => HLP.out.skip h (hvb.2.1.trans ((up_below Wb g).mono (by omega))) (by omega)
            have HNext1 : Hid (skips L (foldP L B6 i) (B6 i) = true → foldP L B6 (i + 1) = p) := fun h => by rw [foldP_skip h]; exact HP.out.symm
            clear hWb hb35 hvb hlt8 hwr8 hblkb hown hRb hzi
            by_cases hzs : z = sf
            · subst hzs
              have heq : eqF (idF z) (idF z) = true := by rw [eqF_id]; simp
              have hsk : skips L (foldP L B6 i) (B6 i) = true := by rw [HSk.out]; simp
              have HQ : Hid (skips L (foldP L B6 i) (B6 i) = true) := hsk
              clear hsk
              refine wp_region_up (by kernel_rfl) (by kernel_rfl) ?_
              repeat (go_big_quiet_step (fail))
              refine wpQuiet_nil ?_
              intro _ hw
              obtain ⟨g, rfl⟩ := hw
              go_wp2
              exact ⟨⟨i + 1, ad, nb, ncap, by simp, by omega, by rw [HNext1.out HQ.out], by rw [HNext1.out HQ.out], by rw [HNext1.out HQ.out], HSkip.out HQ.out g⟩, by simp only [RowKit.intOf]; omega⟩
            · have heq : eqF (idF z) (idF sf) = false := by rw [eqF_id]; simpa using hzs
              cases hfk : findK L.K z with
              | some e1 =>
                have hsk : skips L (foldP L B6 i) (B6 i) = true := by rw [HSk.out, hfk]; simp
                have HQ : Hid (skips L (foldP L B6 i) (B6 i) = true) := hsk
                rw [hfk] at hlk
                simp only [ptOf] at hlk
                clear hsk hfk
                refine wp_region_up (by kernel_rfl) (by kernel_rfl) ?_
                repeat (go_big_quiet_step (fail))
                refine wpQuiet_nil ?_
                intro _ hw
                obtain ⟨g, rfl⟩ := hw
                go_wp2
                exact ⟨⟨i + 1, ad, nb, ncap, by simp, by omega, by rw [HNext1.out HQ.out], by rw [HNext1.out HQ.out], by rw [HNext1.out HQ.out], HSkip.out HQ.out g⟩, by simp only [RowKit.intOf]; omega⟩
              | none =>
                rw [hfk] at hlk
                simp only [ptOf] at hlk
                cases hcn : p.new.contains z with
                | true =>
                  have hsk : skips L (foldP L B6 i) (B6 i) = true := by rw [HSk.out, hcn]; simp
                  have HQ : Hid (skips L (foldP L B6 i) (B6 i) = true) := hsk
                  rw [hcn] at HIN
                  clear hsk hfk hcn
                  refine wp_region_up (by kernel_rfl) (by kernel_rfl) ?_
                  repeat (go_big_quiet_step ((go_at_call 21; exact up_call (HIN.out _))))
                  refine wpQuiet_nil ?_
                  intro _ hw
                  obtain ⟨g, rfl⟩ := hw
                  go_wp2
                  exact ⟨⟨i + 1, ad, nb, ncap, by simp, by omega, by rw [HNext1.out HQ.out], by rw [HNext1.out HQ.out], by rw [HNext1.out HQ.out], HSkip.out HQ.out g⟩, by simp only [RowKit.intOf]; omega⟩
                | false =>
                  have hsk : skips L (foldP L B6 i) (B6 i) = false := by rw [HSk.out, hcn, hfk]; simpa using hzs
                  have HQ : Hid (skips L (foldP L B6 i) (B6 i) = false) := hsk
                  rw [hcn] at HIN
                  clear hsk hfk hcn
                  refine wp_region_up (by kernel_rfl) (by kernel_rfl) ?_
                  repeat (go_big_quiet_step ((go_at_call 21; exact up_call (HIN.out _))))
                  refine wpQuiet_nil ?_
                  intro _ hw
                  obtain ⟨g, rfl⟩ := hw
                  go_upto_region 29 with fail
                  obtain ⟨Wu, hWu⟩ : ∃ Wu, Wu = up Wb g := ⟨_, rfl⟩
                  rw [← hWu]
                  have hvb := HVb.out
                  have hBu : Below wr.heap.size wr Wu := by rw [hWu]; exact hvb.1.trans ((up_below Wb g).mono (by omega))
                  have hsu : Wb.heap.size ≤ Wu.heap.size := by rw [hWu]; exact size_up _ _
                  have g35 : arr? Wu 20 b35 0 = some (aL (idF z)) := by rw [hWu, arr?_up _ _ _ _ _ s35]; exact k35
                  have hr := HLP.out.row
                  rw [← HP.out] at hr
                  have hlt8 := HLT.out
                  have hwr8 := HLP.out.chg.size
                  obtain ⟨w9, nb', ncap', hrun, e2, e3, e4, e5⟩ := push_id Wu Wu nb ncap p.new ad z (hr.keep (fun hc => hBu.block _ (hr.lt (by omega) hc))) HLP.out.ad' (Below.refl _ _) (by omega)
                  have hnblt : 0 < ncap → nb < wr.heap.size := fun hc => hr.lt (by omega) hc
                  have hnew : 0 < ncap → W8.heap.size ≤ nb := HLP.out.new
                  have n35 : arr? w9 20 b35 0 = some (aL (idF z)) := (arr_of_heap (e5.block _ (by omega) (fun ⟨a1, a2⟩ => by have := hnblt a2; omega)) _ _).trans g35
                  have hblk9 : ∀ k, k ≤ b31 → w9.heap[k]? = wr.heap[k]? := fun k hk => (e5.block _ (by omega) (fun ⟨a1, a2⟩ => by have := hnew a2; omega)).trans (hBu.block _ (by omega))
                  have n27 : arr? w9 20 b27 0 = some (aL (idF t)) := (arr_of_heap ((hblk9 _ (by omega)).trans (HBlk.out _ (by omega))) _ _).trans HV8.out.2.1
                  have n31 : arr? w9 20 b31 0 = some (aL p.N) := by rw [HP.out]; exact (arr_of_heap (hblk9 _ (Nat.le_refl _)) _ _).trans HLP.out.near
                  have HC9 : Hid (can? w9 20 b31 0 = true ∧ b31 < w9.heap.size) := ⟨(can_of_heap (hblk9 _ (Nat.le_refl _)) _ _).trans HLP.out.can, by have := e5.size; omega⟩
                  have HF9 : Hid (Below wr.heap.size wr Wu ∧ RowW w9 20 nb' (p.new ++ [z]).length ncap' (idsOf (p.new ++ [z])) ∧ 0 < ncap' ∧ (nb' = nb ∧ 0 < ncap ∨ Wu.heap.size ≤ nb') ∧ Chg (fun k => k = nb ∧ 0 < ncap) Wu w9) := ⟨hBu, e2, e3, e4, e5⟩
                  clear hWu hvb hBu hsu hr hlt8 hwr8 e2 e3 e4 e5 hnblt hnew hblk9 k35 k26 k47 s35 s26 sbl hlk HIN heq HSkip HNext1 hzs
                  go_upto_region 30 with (at_builtin; refine Lib.wpList_append_run _ rfl _ _ _ _ rfl _ _ rfl rfl _ _ hrun ?_)
                  go_upto_region 31 with (go_at_call 22; refine (cdist_hid _ _ _).mono ?_; rintro _ w10 ⟨rfl, HB10⟩)
                  obtain ⟨W11, hW11⟩ : ∃ W11, W11 = setA (w10.alloc (.cells (aL zeroF).toArray 62)) w10.heap.size 0 (aL (xorF (idF z) (idF t))) := ⟨_, rfl⟩
                  obtain ⟨b36, hb36⟩ : ∃ b36, b36 = w10.heap.size := ⟨_, rfl⟩
                  rw [← hW11, ← hb36]
                  have hv11 := var_id w10 (xorF (idF z) (idF t))
                  rw [← hW11] at hv11
                  have m36 : arr? W11 20 b36 0 = some (aL (xorF (idF z) (idF t))) := by rw [hb36]; exact hv11.1
                  have h31w := HC9.out.2
                  have h910 := HB10.out.size
                  have m31 : arr? W11 20 b31 0 = some (aL p.N) := (arr_of_heap ((hv11.2.1.block _ (by omega)).trans (HB10.out.block _ h31w)) _ _).trans n31
                  have HB11 : Hid (Below w9.heap.size w9 W11 ∧ b36 < W11.heap.size) := ⟨HB10.out.trans (hv11.2.1.mono h910), by omega⟩
                  clear hW11 hb36 hv11 h31w h910 n35 n27 n31
                  go_upto_if 178 with (go_at_call 23; refine (ccmp_hid _ _ _).mono ?_; rintro _ w12 ⟨rfl, HB12⟩)
                  have h36w := HB11.out.2
                  have m36' : arr? w12 20 b36 0 = some (aL (xorF (idF z) (idF t))) := (arr_of_heap (HB12.out.block _ h36w) _ _).trans m36
                  have h911 := HB11.out.1.size
                  have mcan : can? w12 20 b31 0 = true := (can_of_below (HB11.out.1.trans (HB12.out.mono h911)) HC9.out.2).trans HC9.out.1
                  have HBT : Hid (Below w9.heap.size w9 w12) := HB11.out.1.trans (HB12.out.mono h911)
                  have HXE : Hid (xorF (idF z) (idF t) = idF (dst (B6 i) L.t)) := by show _ = _; rw [xorF_id, HZi.out, HG8.out.t']
                  by_cases hc : cmpF (xorF (idF z) (idF t)) p.N < 0
                  · have HFin : Hid (foldP L B6 (i + 1) = ⟨p.new ++ [z], xorF (idF z) (idF t), p.adv + 1, true⟩ ∧ Lp L B6 W8 b31 (i + 1) (some ⟨nb', 0, none⟩) nb' ncap' (setA w12 b31 0 (aL (xorF (idF z) (idF t))))) := by
                      have hc' : cmpF (idF (dst (B6 i) L.t)) (foldP L B6 i).N < 0 := by rw [← HXE.out, ← HP.out]; exact hc
                      obtain ⟨a1, a2, a3, a4, a5⟩ := HF9.out
                      rw [HP.out, HZi.out] at a2
                      refine ⟨?_, ?_⟩
                      · rw [foldP_turn HQ.out hc', HXE.out, HP.out, HZi.out]
                      · rw [HXE.out]
                        exact HLP.out.turn HQ.out (by have := HLT.out; omega) a1 a2 a3 a4 a5 HBT.out hc'
                    clear h36w h911 m31 m36
                    go_wp2
                    refine ⟨⟨i + 1, _, nb', ncap', by simp, by omega, ?_, ?_, ?_, HFin.out.2⟩, by simp only [RowKit.intOf]; omega⟩
                    · rw [HFin.out.1]; simp
                    · rw [HFin.out.1]
                    · rw [HFin.out.1]
                  · have HFin : Hid (foldP L B6 (i + 1) = ⟨p.new ++ [z], p.N, p.adv, p.reset⟩ ∧ Lp L B6 W8 b31 (i + 1) (some ⟨nb', 0, none⟩) nb' ncap' w12) := by
                      have hc' : ¬ cmpF (idF (dst (B6 i) L.t)) (foldP L B6 i).N < 0 := by rw [← HXE.out, ← HP.out]; exact hc
                      obtain ⟨a1, a2, a3, a4, a5⟩ := HF9.out
                      rw [HP.out, HZi.out] at a2
                      refine ⟨?_, ?_⟩
                      · rw [foldP_take HQ.out hc', HP.out, HZi.out]
                      · exact HLP.out.take HQ.out (by have := HLT.out; omega) a1 a2 a3 a4 a5 HBT.out hc'
                    clear h36w h911 m31 m36
                    go_wp2
                    refine ⟨⟨i + 1, _, nb', ncap', by simp, by omega, ?_, ?_, ?_, HFin.out.2⟩, by simp only [RowKit.intOf]; omega⟩
                    · rw [HFin.out.1]; simp
                    · rw [HFin.out.1]
                    · rw [HFin.out.1]
          · obtain rfl : i = mm := by omega
            go_wp2
            go_meet
            exact ⟨_, _, _, rfl, rfl, rfl, HLP.out⟩
      case rest =>
        obtain ⟨nad, nb, ncap, rfl, rfl, rfl, hlp⟩ := hcut
        rename World => W9
        obtain ⟨p, hp⟩ : ∃ p, p = foldP L B6 mm := ⟨_, rfl⟩
        rw [← hp]
        have HP : Hid (p = foldP L B6 mm) := hp
        have HLP : Hid (Lp L B6 W8 b31 mm nad nb ncap W9) := hlp
        have hlen : p.new.length ≤ 20 := by have := hlp.len; rw [← hp] at this; omega
        have hpa : 0 ≤ p.adv ∧ p.adv ≤ 300 := by have := hlp.adv; rw [← hp] at this; omega
        have hwb31 : w.heap.size ≤ b31 := by
          have h1 := HG8.out.fresh bl (.inl rfl)
          have h2 := HOld.out bl (.inl rfl)
          have h3 := HLT.out
          omega
        have HG9 : Hid (Good w W9 bl L sf t kn) := HG8.out.chg hlp.chg (fun k hk => by have := HOld.out k hk; have := HLT.out; omega) (fun k hk => by omega)
        have HRow9 : Hid (RowW W9 20 nb p.new.length ncap (idsOf p.new) ∧ (0 < ncap → nad = some ⟨nb, 0, none⟩) ∧ (0 < ncap → b31 < nb)) := by
          have h1 := hlp.row
          rw [← hp] at h1
          refine ⟨h1, fun hc => ?_, fun hc => ?_⟩
          · rw [hlp.ad', if_neg (by omega)]
          · have := hlp.new hc; have := HLT.out; omega
        have HBlk9 : Hid (∀ k, k < b31 → W9.heap[k]? = W8.heap[k]?) := fun k hk => hlp.chg.block k (by have := HLT.out; omega) (by omega)
        have HS9 : Hid (b31 < W9.heap.size ∧ arr? W9 20 b31 0 = some (aL p.N)) := ⟨by have := hlp.chg.size; have := HLT.out; omega, by rw [hp]; exact hlp.near⟩
        have hmn : mm ≤ n6 := by have := HMM.out; omega
        clear hlp hp hwb31
        go_upto_block 2 with fail
        go_cut [37, 38] from 183 to 214 (fun s37 _ wc => ∃ (l : List Int) (kad : Option Addr) (bk bcap : Nat), s37 = .slice kad l.length bcap ∧ l.length ≤ 512 ∧ Bd L p W9 l kad bk bcap wc)
        case first =>
          go_wp2
          go_loopw [37, 38] (fun s37 ix wr => ∃ (i : Nat) (l : List Int) (kad : Option Addr) (bk bcap : Nat), ix = .int .i64 (i : Int) ∧ i ≤ n6 ∧ l.length ≤ i ∧ s37 = .slice kad l.length bcap ∧ Bd L p W9 l kad bk bcap wr) (fun _ ix _ => n6 - (RowKit.intOf ix).toNat)
          case atStart => exact ⟨mm, [], none, 0, 0, rfl, hmn, Nat.zero_le _, rfl, ⟨RowW.nil _ _ _ _, rfl, fun h => absurd h (by omega), Below.refl _ _, fun y hy => absurd hy (by simp)⟩⟩
          case round =>
            obtain ⟨i, l, kad, bk, bcap, rfl, hin, hll, rfl, hbd⟩ := hrel
            have HBD : Hid (Bd L p W9 l kad bk bcap wr) := hbd
            clear hbd
            by_cases hlt : i < n6
            · have hzc : 0 < zcap := by have := HR8.out.2.le; omega
              obtain rfl := HR8.out.1 hzc
              obtain ⟨z, hz⟩ : ∃ z, z = B6 i := ⟨_, rfl⟩
              have hlt8 := HLT.out
              have hzz := hlt8.2.2.2.1 hzc
              have hs9 := HS9.out.1
              have hblk : ∀ k, k < b31 → wr.heap[k]? = W8.heap[k]? := fun k hk => (HBD.out.below.block k (by omega)).trans (HBlk9.out k hk)
              have hzi : arr? wr 20 zb (i * 24) = some (aL (idF z)) := by
                rw [hz]
                exact id_of_contact ((arr_of_heap (hblk _ hzz.2) _ _).trans (HR8.out.2.arr hlt))
              have hi1 : (0 : Int) ≤ (i : Int) := by omega
              have hi2 : (i : Int) < (n6 : Int) := by omega
              have HBlk : Hid (∀ k, k < b31 → wr.heap[k]? = W8.heap[k]?) := hblk
              have HLL : Hid (l.length ≤ i) := hll
              clear hz hlt8 hzz hblk hs9
              go_upto_region 40 with fail
              obtain ⟨Wb, hWb⟩ : ∃ Wb, Wb = setA (wr.alloc (.cells (aL zeroF).toArray 62)) wr.heap.size 0 (aL (idF z)) := ⟨_, rfl⟩
              obtain ⟨b39, hb39⟩ : ∃ b39, b39 = wr.heap.size := ⟨_, rfl⟩
              rw [← hWb, ← hb39]
              have hvb := var_id wr (idF z)
              rw [← hWb] at hvb
              have HVb : Hid (Below wr.heap.size wr Wb ∧ Wb.heap.size = wr.heap.size + 1 ∧ b39 = wr.heap.size) := ⟨hvb.2.1, hvb.2.2.1, hb39⟩
              have k39 : arr? Wb 20 b39 0 = some (aL (idF z)) := by rw [hb39]; exact hvb.1
              have hlt8 := HLT.out
              have hwr9 := HBD.out.below.size
              have hs9 := HS9.out.1
              have hblkb : ∀ k, k < b31 → Wb.heap[k]? = W8.heap[k]? := fun k hk => (hvb.2.1.block k (by omega)).trans (HBlk.out k hk)
              have k26 : arr? Wb 20 b26 0 = some (aL (idF sf)) := (arr_of_heap (hblkb _ (by omega)) _ _).trans HV8.out.1
              have hown : ∀ k, Own bl L k → Wb.heap[k]? = W8.heap[k]? := fun k hk => hblkb k (by have := HOld.out k hk; omega)
              have hRb : Rep Wb bl L := HG8.out.rep.keep hown
              have k47 := hRb.fields.known
              have s39 : b39 < Wb.heap.size := by omega
              have s26 : b26 < Wb.heap.size := by omega
              have sbl : bl < Wb.heap.size := hRb.fields.lt
              have hlk : ∀ g, Sem.run Yba.prog (lkM (.map (some L.br)) (aV (idF z))) (up Wb g) = .ok (ptOf (findK L.K z)) (up Wb g) := fun g => look_known (w := up Wb g) ((hRb.below (up_below Wb g)).map) z
              have HIN : Hid (∀ g, Calls Yba.prog 21 #[.slice nad p.new.length ncap, aV (idF z)] (up Wb g) fun r w' => r = .returned (.bool (p.new.contains z)) ∧ Below (up Wb g).heap.size (up Wb g) w') := fun g => by
                have hr := HRow9.out
                refine in_any (up Wb g) nad nb ncap p.new z (hr.1.keep (fun hc => ?_)) hr.2.1 (by omega)
                have h1 := hr.1.lt (by omega) hc
                exact ((up_below Wb g).block _ (by omega)).trans ((hvb.2.1.block _ (by omega)).trans (HBD.out.below.block _ h1))
              have HKeep : Hid (∀ g, Bd L p W9 l kad bk bcap (up Wb g)) := fun g => HBD.out.keep (hvb.2.1.trans ((up_below Wb g).mono (by omega)))
              clear hWb hb39 hvb hlt8 hwr9 hs9 hblkb hown hRb hzi hll
              by_cases hzs : z = sf
              · subst hzs
                have heq : eqF (idF z) (idF z) = true := by rw [eqF_id]; simp
                refine wp_region_up (by kernel_rfl) (by kernel_rfl) ?_
                repeat (go_big_quiet_step (fail))
                refine wpQuiet_nil ?_
                intro _ hw
                obtain ⟨g, rfl⟩ := hw
                go_wp2
                exact ⟨⟨i + 1, l, kad, bk, bcap, by simp, by omega, by have := HLL.out; omega, rfl, HKeep.out g⟩, by simp only [RowKit.intOf]; omega⟩
              · have heq : eqF (idF z) (idF sf) = false := by rw [eqF_id]; simpa using hzs
                cases hfk : findK L.K z with
                | some e1 =>
                  rw [hfk] at hlk
                  simp only [ptOf] at hlk
                  clear hfk
                  refine wp_region_up (by kernel_rfl) (by kernel_rfl) ?_
                  repeat (go_big_quiet_step (fail))
                  refine wpQuiet_nil ?_
                  intro _ hw
                  obtain ⟨g, rfl⟩ := hw
                  go_wp2
                  exact ⟨⟨i + 1, l, kad, bk, bcap, by simp, by omega, by have := HLL.out; omega, rfl, HKeep.out g⟩, by simp only [RowKit.intOf]; omega⟩
                | none =>
                  rw [hfk] at hlk
                  simp only [ptOf] at hlk
                  cases hcn : p.new.contains z with
                  | true =>
                    rw [hcn] at HIN
                    clear hfk hcn
                    refine wp_region_up (by kernel_rfl) (by kernel_rfl) ?_
                    repeat (go_big_quiet_step ((go_at_call 21; exact up_call (HIN.out _))))
                    refine wpQuiet_nil ?_
                    intro _ hw
                    obtain ⟨g, rfl⟩ := hw
                    go_wp2
                    exact ⟨⟨i + 1, l, kad, bk, bcap, by simp, by omega, by have := HLL.out; omega, rfl, HKeep.out g⟩, by simp only [RowKit.intOf]; omega⟩
                  | false =>
                    have HUN : Hid (findK L.K z = none ∧ z ∉ p.new) := ⟨hfk, fun h => by rw [List.contains_iff_mem.2 h] at hcn; cases hcn⟩
                    rw [hcn] at HIN
                    clear hfk hcn
                    refine wp_region_up (by kernel_rfl) (by kernel_rfl) ?_
                    repeat (go_big_quiet_step ((go_at_call 21; exact up_call (HIN.out _))))
                    refine wpQuiet_nil ?_
                    intro _ hw
                    obtain ⟨g, rfl⟩ := hw
                    go_upto_region 41 with fail
                    obtain ⟨Wu, hWu⟩ : ∃ Wu, Wu = up Wb g := ⟨_, rfl⟩
                    rw [← hWu]
                    have hk := HKeep.out g
                    rw [← hWu] at hk
                    have g39 : arr? Wu 20 b39 0 = some (aL (idF z)) := by rw [hWu, arr?_up _ _ _ _ _ s39]; exact k39
                    obtain ⟨wf, bk', bcap', hrun, e2, e3, e4, e5⟩ := push_id Wu Wu bk bcap l kad z hk.row hk.ad' (Below.refl _ _) (by have := HLL.out; omega)
                    have HFin : Hid (Bd L p W9 (l ++ [z]) (some ⟨bk', 0, none⟩) bk' bcap' wf) := by
                      have h9 := hk.below.size
                      refine ⟨e2, by rw [if_neg (by omega)], fun _ => ?_, hk.below.trans (e5.below h9 (fun k hk' ⟨a1, a2⟩ => by have := hk.new a2; omega)), fun y hy => ?_⟩
                      · rcases e4 with ⟨a1, a2⟩ | a1
                        · rw [a1]; exact hk.new a2
                        · omega
                      · rcases List.mem_append.1 hy with hy | hy
                        · exact hk.un y hy
                        · obtain rfl : y = z := by simpa using hy
                          exact HUN.out
                    clear hWu hk e2 e3 e4 e5 k39 k26 k47 s39 s26 sbl hlk HIN heq HKeep hzs
                    go_wp2_with (at_builtin; refine Lib.wpList_append_run _ rfl _ _ _ _ rfl _ _ rfl rfl _ _ hrun ?_)
                    exact ⟨⟨i + 1, l ++ [z], _, bk', bcap', by simp, by omega, by have := HLL.out; simp; omega, by simp, HFin.out⟩, by simp only [RowKit.intOf]; omega⟩
            · obtain rfl : i = n6 := by omega
              go_wp2
              go_meet
              exact ⟨l, _, _, _, rfl, by omega, HBD.out⟩
        case rest =>
          obtain ⟨l, kad, bk, bcap, rfl, hll, hbd⟩ := hcut
          rename World => W10
          have HBD : Hid (Bd L p W9 l kad bk bcap W10) := hbd
          have hlt8 := HLT.out
          have hs9 := HS9.out.1
          have hG10 : Good w W10 bl L sf t kn := HG9.out.new hbd.below
          have hblk10 : ∀ k, k < b31 → W10.heap[k]? = W8.heap[k]? := fun k hk => (hbd.below.block k (by omega)).trans (HBlk9.out k hk)
          have k17 : arr? W10 24 bc 0 = some (cL (idF x)) := (arr_of_heap (hblk10 _ (by omega)) _ _).trans HV8.out.2.2.1
          have HREP : Hid (Calls Yba.prog 24 #[pb bl, cV (idF x), .slice zad n6 zcap] W10 fun r W' => r = .returned (.tuple #[]) ∧ ∃ L', Hid (Good w W' bl L' sf t kn) ∧ Hid (After W10.heap.size L L' e (L.D e + 1) p) ∧ Hid (Chg (Own bl L) W10 W')) := by
            have hf := HF.out
            have hk20 := HK.out
            have h1 := good_replied hG10 (by omega) x e zb n6 zcap zad B6 HR8.out.1 hf.1 hf.2.1 (by omega) (HR8.out.2.keep (fun hc => hblk10 _ (hlt8.2.2.2.1 hc).2)) HB6.out.byte (fun hc ho => by have := HOld.out zb ho; have := hlt8.2.2.2.1 hc; omega) (by rw [hf.2.2.1]; omega) (by omega)
            refine h1.mono ?_
            rintro r W' ⟨hr, L', a1, a2, a3⟩
            rw [← HMM.out, ← HP.out] at a2
            exact ⟨hr, L', a1, a2, a3⟩
          clear hlt8 hs9 hG10 hblk10 hbd
          go_upto_region 43 with (go_at_call 24; refine HREP.out.mono ?_; rintro _ W11 ⟨rfl, L', HG11, HAf, HC11⟩)
          have hf := HF.out
          have hG := HG11.out
          have hA := HAf.out
          obtain ⟨i0', hi0', hE0', _⟩ := HG9.out.rep.back x e hf.1
          obtain ⟨j1, hj1, hEj⟩ := hA.has i0' hi0'
          have hent := hG.rep.ent j1 hj1
          rw [hEj, hE0', hA.se] at hent
          have c24 := hent.state
          have c72 : W11.cell? ⟨bl, 72, none⟩ = some (.int .i64 (L.answered + 1)) := by rw [← hA.answered]; exact hG.rep.fields.answered
          have c70 : W11.cell? ⟨bl, 70, none⟩ = some (.int .i64 (L.active - 1)) := by rw [← hA.active]; exact hG.rep.fields.active
          have hout0 : L.out = L.active := HG9.out.out
          have c71 : W11.cell? ⟨bl, 71, none⟩ = some (.int .i64 (L.out - 1)) := by rw [hout0, ← hA.active, ← hG.out]; exact hG.rep.fields.out
          have c68 : W11.cell? ⟨bl, 68, none⟩ = some (.int .i64 p.adv) := by rw [← hA.adv]; exact hG.rep.fields.adv
          have c48 : arr? W11 20 bl 48 = some (aL p.N) := by rw [← hA.N]; exact hG.rep.fields.near
          obtain ⟨sad', hsad'⟩ : ∃ sad' : Option Addr, sad' = if L'.cap = 0 then none else some ⟨L'.bs, 0, none⟩ := ⟨_, rfl⟩
          obtain ⟨ln, hln⟩ : ∃ ln, ln = p.new.length := ⟨_, rfl⟩
          have c46 : W11.cell? ⟨bl, 46, none⟩ = some (.slice sad' (L.n + ln) L'.cap) := by
            have := hG.rep.fields.shortlist
            unfold slV at this
            rw [← hsad', hA.n, ← hln] at this
            exact this
          rw [← hln]
          have h10 := HBD.out.below.size
          have hs9 := HS9.out
          have hown31 : ¬ Own bl L b31 := fun ho => by have := HOld.out b31 ho; have := HLT.out; omega
          have c31 : arr? W11 20 b31 0 = some (aL p.N) := (arr_of_heap ((HC11.out.block _ (by omega) hown31).trans (HBD.out.below.block _ hs9.1)) _ _).trans hs9.2
          have b72 : 0 ≤ L.answered ∧ L.answered ≤ 10 := by omega
          have b70 : 0 ≤ L.active ∧ L.active ≤ 1000 := by omega
          have b71 : 0 ≤ L.out ∧ L.out ≤ 1000 := by omega
          have hln20 : ln ≤ 20 := by omega
          have hes : eqF p.N p.N = true := eqF_self _
          have HLN : Hid (ln = p.new.length) := hln
          clear hf hG hA hi0' hE0' hj1 hEj hent hout0 hsad' hln h10 hs9 hown31
          go_upto_region 45 with fail
          go_quiet (fail)
          go_upto_if 278 with fail
          clear c24 c72 c70 c71 c68 c48 c46 c31 b72 b70 b71 hes
          obtain ⟨W12, hW12⟩ : ∃ W12, W12 = W11.drewN nq := ⟨_, rfl⟩
          rw [← hW12]
          obtain ⟨s1, hs1⟩ : ∃ s1 : Int, s1 = if p.reset then 0 else L.stalled := ⟨_, rfl⟩
          obtain ⟨s2, hs2⟩ : ∃ s2 : Int, s2 = if L.T e = p.adv then s1 + 1 else s1 := ⟨_, rfl⟩
          have hstb : 0 ≤ s1 ∧ s1 ≤ 10 := by
            have h1 := HG9.out.rep.stalls
            have h2 := HF.out
            rw [hs1]
            split <;> omega
          have HS2 : Hid (L'.stalled = s2) := by
            show _ = _
            rw [HAf.out.stalled, hs2, hs1]
          have HW12 : Hid (W12 = W11.drewN nq) := hW12
          clear hW12
          go_cut [33, 40] from 277 to 278 (fun s33 s40 wc => s33 = .bool p.reset ∧ s40 = .int .i64 s1 ∧ wc = W12)
          case first =>
            cases hrs : p.reset with
            | true =>
              rw [hrs] at hs1
              go_wp2
              go_meet
              exact ⟨by rw [hrs], by rw [hs1]; rfl, rfl⟩
            | false =>
              rw [hrs] at hs1
              go_wp2
              go_meet
              exact ⟨by rw [hrs], by rw [hs1]; rfl, rfl⟩
          case rest =>
            obtain ⟨rfl, rfl, rfl⟩ := hcut
            rename World => W12
            go_upto_if 281 with fail
            go_cut [40] from 279 to 283 (fun s40 wc => s40 = .int .i64 s2 ∧ wc = W12)
            case first =>
              clear hs1
              by_cases hte : L.T e = p.adv
              · rw [if_pos hte] at hs2
                have htb : (L.T e == p.adv) = true := by simpa using hte
                go_wp2
                go_meet
                exact ⟨by rw [hs2], rfl⟩
              · rw [if_neg hte] at hs2
                have htb : (L.T e == p.adv) = false := by simpa using hte
                go_wp2
                go_meet
                exact ⟨by rw [hs2], rfl⟩
            case rest =>
              obtain ⟨rfl, rfl⟩ := hcut
              rename World => W12
              have HG12 : Hid (Good w W12 bl L' sf t kn) := by
                rw [HW12.out]
                exact HG11.out.drewN _
              have HC12 : Hid (Chg (Own bl L) W10 W12) := by
                rw [HW12.out]
                exact ⟨HC11.out.os, HC11.out.tape, HC11.out.output, HC11.out.size, HC11.out.block⟩
              have c69 : W12.cell? ⟨bl, 69, none⟩ = some (.int .i64 s2) := by rw [← HS2.out]; exact HG12.out.rep.fields.stalled
              clear hs1 hs2 HW12 HG11 HC11 hstb
              go_upto_block 4 with fail
              clear c69
              have hrow12 : RowW W12 20 nb p.new.length ncap (idsOf p.new) := by
                have h1 := HRow9.out
                have h2 := HBD.out.below.size
                refine h1.1.keep (fun hc => ?_)
                have h3 := h1.1.lt (by omega) hc
                exact (HC12.out.block _ (by omega) (fun ho => by have := HOld.out nb ho; have := h1.2.2 hc; have := HLT.out; omega)).trans (HBD.out.below.block _ h3)
              have HR12 : Hid (RowW W12 20 nb p.new.length ncap (idsOf p.new)) := hrow12
              have hrowk : RowW W12 20 bk l.length bcap (idsOf l) := by
                have h1 := HBD.out
                refine h1.row.keep (fun hc => ?_)
                have h3 := h1.row.lt (by omega) hc
                exact HC12.out.block _ h3 (fun ho => by have := HOld.out bk ho; have := h1.new hc; have := HS9.out.1; have := HLT.out; omega)
              have HRk : Hid (RowW W12 20 bk l.length bcap (idsOf l)) := hrowk
              have hD : 0 ≤ L.D e ∧ L.D e ≤ 10 := by
                have hf := HF.out
                obtain ⟨i1, hi1, hE1, _⟩ := HG9.out.rep.back x e hf.1
                have := HG9.out.rep.depths i1 hi1
                rw [hE1] at this
                omega
              clear hrow12 hrowk
              go_cut [41] from 290 to 322 (fun _ wc => ∃ k, wc = W12.drewN k)
              case first =>
                go_wp2
                go_loopw [41] (fun ix wr => ∃ (i k : Nat), ix = .int .i64 (i : Int) ∧ i ≤ ln ∧ wr = W12.drewN k) (fun ix _ => ln - (RowKit.intOf ix).toNat)
                case atStart => exact ⟨0, 0, rfl, Nat.zero_le _, rfl⟩
                case round =>
                  obtain ⟨i, k, rfl, hin, rfl⟩ := hrel
                  by_cases hlt : i < ln
                  · have hil : i < p.new.length := by have := HLN.out; omega
                    obtain ⟨y, hy⟩ : ∃ y, y = p.new.getD i 0 := ⟨_, rfl⟩
                    have hym : y ∈ p.new := by
                      rw [hy, List.getD_eq_getElem?_getD, List.getElem?_eq_getElem hil]
                      exact List.getElem_mem _
                    obtain ⟨b, ii, hfb, hii, hbE, hbS, hbD⟩ := HAf.out.new y hym
                    have hent := HG12.out.rep.ent ii hii
                    rw [← hbE, hbS, hbD] at hent
                    have c24 := hent.state
                    have c25 := hent.depth
                    have c47 := HG12.out.rep.fields.known
                    have hncp : 0 < ncap := by have := HR12.out.le; omega
                    obtain rfl := HRow9.out.2.1 hncp
                    have cy : arr? W12 20 nb (i * 20) = some (aL (idF y)) := by rw [hy]; exact HR12.out.arr hil
                    have hlk : ∀ n, Sem.run Yba.prog (lkM (.map (some L'.br)) (aV (idF y))) (W12.drewN n) = .ok (pb b) (W12.drewN n) := fun n => look_known (w := W12.drewN n) (HG12.out.rep.map.of_block rfl) y |>.trans (by rw [hfb]; rfl)
                    have hi1 : (0 : Int) ≤ (i : Int) := by omega
                    have hi2 : (i : Int) < (ln : Int) := by omega
                    clear hil hy hym hfb hii hbE hbS hbD hent hncp
                    go_wp2
                    go_quiet (fail)
                    go_wp2
                    exact ⟨⟨i + 1, _, by simp, by omega, rfl⟩, by simp only [RowKit.intOf]; omega⟩
                  · obtain rfl : i = ln := by omega
                    go_wp2
                    go_meet
                    exact ⟨_, rfl⟩
              case rest =>
                obtain ⟨k1, rfl⟩ := hcut
                go_upto_block 6 with fail
                go_cut [43] from 323 to 338 (fun _ wc => ∃ k, wc = W12.drewN k)
                case first =>
                  go_wp2
                  go_loopw [43] (fun ix wr => ∃ (i k : Nat), ix = .int .i64 (i : Int) ∧ i ≤ l.length ∧ wr = W12.drewN k) (fun ix _ => l.length - (RowKit.intOf ix).toNat)
                  case atStart => exact ⟨0, k1, rfl, Nat.zero_le _, rfl⟩
                  case round =>
                    obtain ⟨i, k, rfl, hin, rfl⟩ := hrel
                    by_cases hlt : i < l.length
                    · obtain ⟨y, hy⟩ : ∃ y, y = l.getD i 0 := ⟨_, rfl⟩
                      have hym : y ∈ l := by
                        rw [hy, List.getD_eq_getElem?_getD, List.getElem?_eq_getElem hlt]
                        exact List.getElem_mem _
                      have hun := HBD.out.un y hym
                      have hfb := HAf.out.unk y hun.1 hun.2
                      have c47 := HG12.out.rep.fields.known
                      have hncp : 0 < bcap := by have := HRk.out.le; omega
                      obtain rfl : kad = some ⟨bk, 0, none⟩ := by rw [HBD.out.ad', if_neg (by omega)]
                      have cy : arr? W12 20 bk (i * 20) = some (aL (idF y)) := by rw [hy]; exact HRk.out.arr hlt
                      have hlk : ∀ n, Sem.run Yba.prog (lkM (.map (some L'.br)) (aV (idF y))) (W12.drewN n) = .ok (.pointer none) (W12.drewN n) := fun n => look_known (w := W12.drewN n) (HG12.out.rep.map.of_block rfl) y |>.trans (by rw [hfb]; rfl)
                      have hi1 : (0 : Int) ≤ (i : Int) := by omega
                      have hi2 : (i : Int) < (l.length : Int) := by omega
                      clear hy hym hfb hun hncp
                      go_wp2
                      go_quiet (fail)
                      go_wp2
                      exact ⟨⟨i + 1, _, by simp, by omega, rfl⟩, by simp only [RowKit.intOf]; omega⟩
                    · obtain rfl : i = l.length := by omega
                      go_wp2
                      go_meet
                      exact ⟨_, rfl⟩
                case rest =>
                  obtain ⟨k2, rfl⟩ := hcut
                  go_upto_block 8 with fail
                  go_cut [44] from 339 to 355 (fun _ wc => Below W12.heap.size W12 wc)
                  case first =>
                    go_wp2
                    go_loopw [44] (fun ix wr => ∃ (i : Nat), ix = .int .i64 (i : Int) ∧ i ≤ n6 ∧ Below W12.heap.size W12 wr) (fun ix _ => n6 - (RowKit.intOf ix).toNat)
                    case atStart => exact ⟨0, rfl, Nat.zero_le _, Below.drewN (Below.refl _ _) _⟩
                    case round =>
                      obtain ⟨i, rfl, hin, hbr⟩ := hrel
                      have HBr : Hid (Below W12.heap.size W12 wr) := hbr
                      clear hbr
                      by_cases hlt : i < n6
                      · have hzc : 0 < zcap := by have := HR8.out.2.le; omega
                        obtain rfl := HR8.out.1 hzc
                        obtain ⟨b, o, rfl, hbw, hcell⟩ := HB6.out.at' (by omega)
                        have hlt8 := HLT.out
                        have hzz := hlt8.2.2.2.1 hzc
                        have hs9 := HS9.out.1
                        have h10 := HBD.out.below.size
                        have h12 := HC12.out.size
                        have hzo : ¬ Own bl L zb := fun ho => by have := HOld.out zb ho; omega
                        have hblk : wr.heap[zb]? = W8.heap[zb]? := (HBr.out.block _ (by omega)).trans ((HC12.out.block _ (by omega) hzo).trans ((HBD.out.below.block _ (by omega)).trans (HBlk9.out _ hzz.2)))
                        obtain ⟨z, hz⟩ : ∃ z, z = B6 i := ⟨_, rfl⟩
                        have cz : arr? wr 20 zb (i * 24) = some (aL (idF z)) := by
                          rw [hz]
                          exact id_of_contact ((arr_of_heap hblk _ _).trans (HR8.out.2.arr hlt))
                        have hgw := HG12.out.below
                        have cb : wr.cell? ⟨b, o + i, none⟩ = some (.int .u8 z) := by
                          rw [hz]
                          exact ((HBr.out.cell (p := ⟨b, o + i, none⟩) (by show b < _; have := hgw.size; omega)).trans (hgw.cell (p := ⟨b, o + i, none⟩) hbw)).trans (hcell i hlt)
                        have szb : zb < wr.heap.size := by have := HBr.out.size; omega
                        have sb : b < wr.heap.size := by have := HBr.out.size; have := hgw.size; omega
                        have heq : eqF (idF z) (idF z) = true := eqF_self _
                        have hi1 : (0 : Int) ≤ (i : Int) := by omega
                        have hi2 : (i : Int) < (n6 : Int) := by omega
                        clear hlt8 hzz hs9 h10 h12 hzo hblk hz hgw hcell hbw
                        go_wp2
                        refine wp_region_up (by kernel_rfl) (by kernel_rfl) ?_
                        repeat (go_big_quiet_step ((go_at_call 19; exact up_call (cid_any _ _))))
                        refine wpQuiet_nil ?_
                        intro _ hw
                        obtain ⟨g, rfl⟩ := hw
                        have HBr2 : Hid (Below W12.heap.size W12 (up wr g)) := HBr.out.trans ((up_below wr g).mono HBr.out.size)
                        go_wp2
                        exact ⟨⟨i + 1, by simp, by omega, HBr2.out⟩, by simp only [RowKit.intOf]; omega⟩
                      · obtain rfl : i = n6 := by omega
                        go_wp2
                        go_meet
                        exact HBr.out
                  case rest =>
                    rename World => W13
                    have HG13 : Hid (Good w W13 bl L' sf t kn) := HG12.out.new hcut
                    clear hcut
                    have HSO : Hid (Calls Yba.prog 25 #[pb bl] W13 fun r w' => r = .returned (.bool true) ∧ Hid (Below w.heap.size w w')) := by
                      refine (sorted_any W13 bl L' HG13.out.rep).mono ?_
                      rintro r w' ⟨h1, h2⟩
                      exact ⟨h1, (HG13.out.new h2).below⟩
                    go_wp2_with (go_at_call 25; refine HSO.out.mono ?_; rintro _ w' ⟨rfl, HK'⟩)
                    go_ret
                    exact ⟨rfl, HK'.out⟩
end Go.Proofs.Ybulkchfs
