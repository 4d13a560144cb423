/- CONTRACT OF (*Lookup).add (39). -/
import Derived.Test.YbulkchfsFields
import Derived.Deep.RegionHeld3
import Derived.Deep.Cut
namespace Go.Proofs.Ybulkchfs
open Go.RowKit Go.Lib
set_option linter.unusedVariables false
set_option linter.unusedSimpArgs false
attribute [local go_sem ↓] ldI_eq ldC_eq stI_eq stC_eq bxI_eq bxC_eq nwI_eq nwC_eq eqI_eq neI_eq egI_eq bdC_eq bdE_eq bxE_eq lkM_eq upM_eq
attribute [local go_sem] load_id load_contact store_id store_contact box_id box_contact new_id new_contact eq_id ne_id guard_id guard_id' eqF_id build_contact build_zero build_entry box_entry
attribute [local go_sem] arr?_drew arr?_drewN arr?_alloc_past arr?_alloc_at arr?_setCell arr?_setA arr?_setA_same can?_drew can?_drewN can?_alloc_past can?_alloc_at can?_setCell can?_setA cell_setA frozen_setA size_setA agg_aL agg_cL set_aL lset_aL size_aL size_cL length_aL length_cL
attribute [local go_sem] cell_up arr?_up frozen_up

theorem Below.drewN {B : Nat} {a w : World} (h : Below B a w) (n : Nat) : Below B a (w.drewN n) := ⟨h.os, h.tape, h.output, h.size, h.block⟩
theorem i62 (F : Nat → Int) : (Yba.prog.info? 62).map (·.size) = some (aL F).length := by rw [info62, length_aL]
theorem und62 : Yba.prog.underlying 62 = some (.array 20 5) := by kernel_rfl
theorem range_id {w : World} {b o : Nat} {F : Nat → Int} (h : arr? w 20 b o = some (aL F)) : w.rangeAt b o (aL F) := (of_arr? h).2

theorem can?_up (w : World) (g : PProd (Array Obj) Nat) (n b o : Nat) (hb : b < w.heap.size) : can? (up w g) n b o = can? w n b o := can?_congr (fun i _ => by rw [cell_up w g b _ hb]) (fun i _ => frozen_up w g b _ hb)
theorem size_zero : (aL zeroF).length = 20 := length_aL _
theorem xor_id (a b : Int) (w : World) : Calls Yba.prog 47 #[aV (idF a), aV (idF b)] w fun e w' => e = .returned (aV (idF (dst a b))) ∧ Below w.heap.size w w' := by
  have := dist_any (idF a) (idF b) w
  rw [xorF_id] at this
  exact this

theorem fin_chg (wd : World) (g : PProd (Array Obj) Nat) (bl : Nat) (F : Nat → Int) (a : Int) : Chg (fun k => k = bl) wd (((setA (up wd g) bl 48 (aL F)).setCell ⟨bl, 68, none⟩ (.int .i64 a)).setCell ⟨bl, 69, none⟩ (.int .i64 0)) := by
  have c1 : Chg (fun k => k = bl) wd (up wd g) := Chg.ofNew (up_below wd g)
  have c2 := c1.setA bl 48 (aL F) (fun _ => rfl)
  have c3 := c2.setCell ⟨bl, 68, none⟩ (.int .i64 a) (fun _ => rfl)
  exact c3.setCell ⟨bl, 69, none⟩ (.int .i64 0) (fun _ => rfl)
theorem fin_fields {wd : World} {g : PProd (Array Obj) Nat} {bl : Nat} {L : St} {x d : Int} {e p bs cap : Nat} (h : Fields wd bl { L with bs := bs, n := L.n + 1, cap := cap }) (hb : bl < wd.heap.size) (hc : cmpF (idF (dst x L.t)) L.N < 0) :
    Fields (((setA (up wd g) bl 48 (aL (idF (dst x L.t)))).setCell ⟨bl, 68, none⟩ (.int .i64 (L.adv + 1))).setCell ⟨bl, 69, none⟩ (.int .i64 0)) bl (L.add x d e p bs cap) := by
  have h1 := (h.keep ((up_below wd g).block _ hb)).setNear (idF (dst x L.t))
  have h2 := (h1.setAdv (L.adv + 1)).setStalled 0
  have h3 := h2.other (insE L.E p e) (upd L.X e x) (upd L.S e 0) (upd L.D e d) (upd L.T e 0) (L.K ++ [(x, e)])
  unfold St.add
  rw [if_pos hc, if_pos hc, if_pos hc]
  exact h3
theorem fin_fields' {wd : World} {g : PProd (Array Obj) Nat} {bl : Nat} {L : St} {x d : Int} {e p bs cap : Nat} (h : Fields wd bl { L with bs := bs, n := L.n + 1, cap := cap }) (hb : bl < wd.heap.size) (hc : ¬ (cmpF (idF (dst x L.t)) L.N < 0)) :
    Fields (up wd g) bl (L.add x d e p bs cap) := by
  have h3 := (h.keep ((up_below wd g).block _ hb)).other (insE L.E p e) (upd L.X e x) (upd L.S e 0) (upd L.D e d) (upd L.T e 0) (L.K ++ [(x, e)])
  unfold St.add
  rw [if_neg hc, if_neg hc, if_neg hc]
  exact h3
attribute [local go_sem] can?_up

def AddPost (w : World) (bl : Nat) (L : St) (x d : Int) (r : Ending) (w' : World) : Prop :=
  r = .returned (.tuple #[]) ∧
    ((x = L.self ∨ (findK L.K x).isSome) ∧ Rep w' bl L ∧ Below w.heap.size w w' ∨
     x ≠ L.self ∧ findK L.K x = none ∧ ∃ e p bs cap, w.heap.size ≤ e ∧ Rep w' bl (L.add x d e p bs cap) ∧ (bs = L.bs ∧ 0 < L.cap ∨ w.heap.size ≤ bs) ∧ p ≤ L.n ∧ Chg (fun k => k = bl ∨ k = L.br ∨ (0 < L.cap ∧ k = L.bs)) w w')

set_option maxRecDepth 100000 in
set_option maxHeartbeats 4000000 in
theorem add_any (w : World) (bl : Nat) (L : St) (x d : Int) (H : Rep w bl L) (hx : 0 ≤ x ∧ x ≤ 255) (hd : 0 ≤ d ∧ d ≤ L.answered) (hans : L.answered ≤ 100000) :
    Calls Yba.prog 39 #[pb bl, cV (idF x), .int .i64 d] w (AddPost w bl L x d) := by
  obtain ⟨W, hW⟩ : ∃ W, W = (w.alloc (.cells #[pb bl] 57)).alloc (.cells (cL (idF x)).toArray 73) := ⟨_, rfl⟩
  have hs : W.heap.size = w.heap.size + 2 := by rw [hW]; simp
  have HW : Hid (Below w.heap.size w W) := by rw [hW]; exact ((Below.refl _ w).alloc (Nat.le_refl _) _).alloc (by simp) _
  have HR : Hid (Rep W bl L) := H.below HW.out
  have c3 : W.cell? ⟨w.heap.size, 0, none⟩ = some (pb bl) := by
    rw [hW, World.cell?_alloc_past _ _ _ (by simp), World.cell?_alloc_at _ _ _ _ rfl]; rfl
  have c4 : arr? W 24 (w.heap.size + 1) 0 = some (cL (idF x)) := by rw [hW, arr?_alloc_at _ _ _ _ _ (by simp) (length_cL _)]
  have c4' : arr? W 20 (w.heap.size + 1) 0 = some (aL (idF x)) := by
    obtain ⟨hl, hr⟩ := of_arr? c4
    refine arr?_of (length_aL _) (fun j v hj => hr j v ?_)
    unfold cL
    rw [List.getElem?_append_left (List.getElem?_eq_some_iff.1 hj).1]; exact hj
  have cS := HR.out.fields.self
  have cT := HR.out.fields.target
  have cK := HR.out.fields.known
  have hlk := look_known HR.out.map x
  have s3 : w.heap.size < W.heap.size := by omega
  have s4 : w.heap.size + 1 < W.heap.size := by omega
  have sbl : bl < W.heap.size := HR.out.fields.lt
  have HX : Hid (0 ≤ x ∧ x ≤ 255) := hx
  have HD : Hid (0 ≤ d ∧ d ≤ L.answered) := hd
  have HA : Hid (L.answered ≤ 100000) := hans
  clear hx hd hans
  go_enter Yba.func39, Yba.ntmps39
  go_wp2
  rw [← hW]
  clear hW
  by_cases hself : x = L.self
  · have hb : (x == L.self) = true := by simpa using hself
    go_quiet (fail)
    go_wp2
    refine bodyPost_ret (results_none rfl _ _ _) rfl ?_
    exact ⟨rfl, .inl ⟨.inl hself, HR.out.keep (fun _ _ => rfl), Below.drewN HW.out _⟩⟩
  · have hb : (x == L.self) = false := by simpa using hself
    cases hf : findK L.K x with
    | some y =>
      rw [hf] at hlk
      have hlk' : ∀ n, Sem.run Yba.prog (lkM (.map (some L.br)) (aV (idF x))) (W.drewN n) = .ok (pb y) (W.drewN n) := fun n => look_known (w := W.drewN n) (HR.out.map.of_block rfl) x |>.trans (by rw [hf]; rfl)
      go_quiet (fail)
      go_wp2
      refine bodyPost_ret (results_none rfl _ _ _) rfl ?_
      exact ⟨rfl, .inl ⟨.inr (by rw [hf]; rfl), HR.out.keep (fun _ _ => rfl), Below.drewN HW.out _⟩⟩
    | none =>
      have hlk' : ∀ n, Sem.run Yba.prog (lkM (.map (some L.br)) (aV (idF x))) (W.drewN n) = .ok (.pointer none) (W.drewN n) := fun n => look_known (w := W.drewN n) (HR.out.map.of_block rfl) x |>.trans (by rw [hf]; rfl)
      go_quiet (fail)
      go_wp2
      obtain ⟨W2, hW2⟩ : ∃ W2, W2 = (W.drewN nq).alloc (.cells (eL (idF x) 0 d 0).toArray 83) := ⟨_, rfl⟩
      obtain ⟨e, he⟩ : ∃ e, e = w.heap.size + 2 := ⟨_, rfl⟩
      rw [← hW2]
      have hs2 : W2.heap.size = w.heap.size + 3 := by rw [hW2]; simp [hs]
      have HW2 : Hid (Below w.heap.size w W2) := by rw [hW2]; exact (Below.drewN HW.out _).alloc (by simp [hs]) _
      have hB2 : Below W.heap.size W W2 := by rw [hW2]; exact (Below.drewN (Below.refl _ W) _).alloc (by simp) _
      have HR2 : Hid (Rep W2 bl L) := HR.out.below hB2
      have d3 : W2.cell? ⟨w.heap.size, 0, none⟩ = some (pb bl) := (hB2.cell (p := ⟨w.heap.size, 0, none⟩) s3).trans c3
      have d4 : arr? W2 20 (w.heap.size + 1) 0 = some (aL (idF x)) := (arr?_congr fun j _ => hB2.cell (p := ⟨w.heap.size + 1, 0 + j, none⟩) s4).trans c4'
      have dE : Hid (EntAt W2 e x 0 d 0) := by
        have hc : ∀ o, W2.cell? ⟨e, o, none⟩ = (eL (idF x) 0 d 0)[o]? := fun o => by
          rw [hW2, World.cell?_alloc_at _ _ _ _ (by simp [he, hs])]; simp
        refine ⟨arr?_of (length_cL _) (fun j v hj => ?_), ?_, ?_, ?_, fun o => ?_⟩
        · rw [hc]
          unfold eL
          rw [Nat.zero_add, List.getElem?_append_left (List.getElem?_eq_some_iff.1 hj).1]; exact hj
        · rw [hc]; unfold eL; rw [List.getElem?_append_right (by rw [length_cL]; omega), length_cL]; rfl
        · rw [hc]; unfold eL; rw [List.getElem?_append_right (by rw [length_cL]; omega), length_cL]; rfl
        · rw [hc]; unfold eL; rw [List.getElem?_append_right (by rw [length_cL]; omega), length_cL]; rfl
        · rw [hW2]; exact World.frozen?_alloc_at _ _ _ _ (by simp [he, hs])
      have dK := HR2.out.fields.known
      obtain ⟨W3, hput, HM3, hB3, hs3, ho3, ht3, hu3⟩ := put_known (w := W2.drew) (HR2.out.map.of_block rfl) x e hf
      have nbr : Hid (bl ≠ L.br ∧ w.heap.size ≠ L.br ∧ w.heap.size + 1 ≠ L.br ∧ e ≠ L.br) := by
        have h1 := HR2.out.apart2.1
        have h2 := H.map.lt
        exact ⟨h1, by omega, by omega, by omega⟩
      have S2 : W2.drew.cell? ⟨w.heap.size, 0, none⟩ = some (pb bl) ∧ W2.drew.rangeAt (w.heap.size + 1) 0 (aL (idF x)) ∧ W2.drew.cell? ⟨bl, 47, none⟩ = some (.map (some L.br)) := ⟨d3, range_id d4, dK⟩
      have S3 : W3.cell? ⟨w.heap.size, 0, none⟩ = some (pb bl) ∧ W3.rangeAt (w.heap.size + 1) 0 (aL (idF x)) ∧ W3.cell? ⟨bl, 47, none⟩ = some (.map (some L.br)) :=
        ⟨(cell_of_heap (hB3 _ nbr.out.2.1) _).trans d3, range_id ((arr_of_heap (hB3 _ nbr.out.2.2.1) _ _).trans d4), (cell_of_heap (hB3 _ nbr.out.1) _).trans dK⟩
      have HB3 : Hid (∀ k, k ≠ L.br → W3.heap[k]? = W2.heap[k]?) := hB3
      clear hB2 hW2 hlk hlk' cS cT cK c3 c4 c4' s3 s4 sbl hs hB3
      subst he
      have uu := und62
      have i1 := i62 (idF x)
      go_region_held3 (fun w' => w'.cell? ⟨w.heap.size, 0, none⟩ = some (pb bl) ∧ w'.rangeAt (w.heap.size + 1) 0 (aL (idF x)) ∧ w'.cell? ⟨bl, 47, none⟩ = some (.map (some L.br))) (first | exact S2 | exact S3) (fail)
      have d5 : arr? W3 20 bl 20 = some (aL (idF L.t)) := (arr_of_heap (HB3.out _ nbr.out.1) _ _).trans HR2.out.fields.target
      have d4 : arr? W3 20 (w.heap.size + 1) 0 = some (aL (idF x)) := arr?_of (length_aL _) S3.2.1
      have d3 : W3.cell? ⟨w.heap.size, 0, none⟩ = some (pb bl) := S3.1
      have q3 : w.heap.size < W3.heap.size := block_lt_of_cell d3
      have q4 : w.heap.size + 1 < W3.heap.size := by rw [hs3]; show _ < W2.heap.size; omega
      have q5 : bl < W3.heap.size := block_lt_of_cell S3.2.2
      have q6 : w.heap.size + 2 < W3.heap.size := by rw [hs3]; show _ < W2.heap.size; omega
      have HS3 : Hid (W2.heap.size ≤ W3.heap.size) := by show _ ≤ _; rw [hs3]; exact Nat.le_refl _
      clear S2 S3 uu i1 hput dK hs3 hs2
      go_wp2
      go_cut [7] from 38 (fun s7 wc => ∃ db, s7 = pb db ∧ W3.heap.size ≤ db ∧ db < wc.heap.size ∧ arr? wc 20 db 0 = some (aL (idF (dst x L.t))) ∧ Below W3.heap.size W3 wc)
      case first =>
        go_region_with (go_at_call 47; refine (xor_id _ _ _).mono ?_; rintro _ w5 ⟨rfl, hB⟩; obtain ⟨g, rfl⟩ := up_of_below hB)
        all_goals
          (go_wp2_with fail
           go_meet
           first | exact ⟨_, rfl, fresh1 W3 _ _⟩ | exact ⟨_, rfl, Nat.le_refl _, fresh2 W3 _ _⟩)
      case rest =>
        rename World => W4
        obtain ⟨db, rfl, hdb, hdb', hD, HB4⟩ := hcut
        have HH : Hid (∀ k, Own bl L k → k ≠ L.br → W4.heap[k]? = W2.heap[k]?) := fun k hk hne => by
          have h1 := HR2.out.own_lt hk
          have h2 := HB3.out k hne
          rw [HB4.block k (Nat.lt_of_lt_of_le h1 HS3.out)]
          exact h2
        have hObl : W4.heap[bl]? = W2.heap[bl]? := HH.out bl (.inl rfl) nbr.out.1
        have f3 : W4.cell? ⟨w.heap.size, 0, none⟩ = some (pb bl) := (HB4.cell (p := ⟨w.heap.size, 0, none⟩) q3).trans d3
        have f46 : W4.cell? ⟨bl, 46, none⟩ = some (slV L.bs L.n L.cap) := (cell_of_heap hObl _).trans HR2.out.fields.shortlist
        have f20 : arr? W4 20 bl 20 = some (aL (idF L.t)) := (arr_of_heap hObl _ _).trans HR2.out.fields.target
        have hsz : W3.heap.size ≤ W4.heap.size := HB4.size
        have HSh : Hid (Short W4 L.bs L.n L.cap L.E (fun i => L.X (L.E i)) L.t) := HR2.out.short.keep (Nat.le_trans HS3.out hsz) (fun hn => HH.out _ (.inr (.inr (.inl ⟨by have := HR2.out.row.le; omega, rfl⟩))) (HR2.out.apart2.2 (by have := HR2.out.row.le; omega)).2) (fun i hi => HH.out _ (.inr (.inr (.inr ⟨i, hi, rfl⟩))) (HR2.out.apart i hi).2.1)
        have HN : Hid (0 < L.n → (if L.cap = 0 then none else some (⟨L.bs, 0, none⟩ : Addr)) = some ⟨L.bs, 0, none⟩ ∧ L.bs < W4.heap.size) := fun hn => by
          have h1 := HR2.out.row.le
          have h2 := HR2.out.row.lt (by omega)
          have h3 := HS3.out
          exact ⟨if_neg (by omega), by omega⟩
        have HT : Hid (0 ≤ L.t ∧ L.t ≤ 255) := H.tbyte
        have HDb : Hid (0 ≤ dst x L.t ∧ dst x L.t ≤ 255) := dst_byte HX.out HT.out
        have HSm : Hid (L.n ≤ 1024) := Nat.le_trans H.small (by omega)
        have p3 : w.heap.size < W4.heap.size := by omega
        have p5 : bl < W4.heap.size := by omega
        have S4 : W4.drew.cell? ⟨w.heap.size, 0, none⟩ = some (pb bl) ∧ W4.drew.cell? ⟨bl, 46, none⟩ = some (slV L.bs L.n L.cap) ∧ W4.drew.rangeAt db 0 (aL (idF (dst x L.t))) := ⟨f3, f46, range_id hD⟩
        have HS4 : Hid (∀ w', Below W4.drew.heap.size W4.drew w' → w'.cell? ⟨w.heap.size, 0, none⟩ = some (pb bl) ∧ w'.cell? ⟨bl, 46, none⟩ = some (slV L.bs L.n L.cap) ∧ w'.rangeAt db 0 (aL (idF (dst x L.t)))) := fun w' hb =>
          ⟨(hb.cell (p := ⟨w.heap.size, 0, none⟩) p3).trans f3, (hb.cell (p := ⟨bl, 46, none⟩) p5).trans f46, range_id ((arr?_congr fun j _ => hb.cell (p := ⟨db, 0 + j, none⟩) hdb').trans hD)⟩
        have hsrch := search_any W4.drew _ L.bs L.n L.cap w.heap.size bl L.E (fun i => L.X (L.E i)) L.t (dst x L.t) HT.out HDb.out HSm.out HN.out (HSh.out.keep (Nat.le_refl _) (fun _ => rfl) (fun _ _ => rfl)) f3 f20 p3 p5
        have HSR : Hid (Calls Yba.prog 48 #[slV L.bs L.n L.cap, aV (idF (dst x L.t)), .func (.func 49) #[] #[pb w.heap.size]] W4.drew fun e w' => ∃ (p : Nat) (f : Bool), e = .returned (.tuple #[.int .i64 p, .bool f]) ∧ p ≤ L.n ∧ (∀ j, j < p → dst (L.X (L.E j)) L.t < dst x L.t) ∧ (∀ j, p ≤ j → j < L.n → dst x L.t ≤ dst (L.X (L.E j)) L.t) ∧ Below W4.drew.heap.size W4.drew w') := hsrch
        have uu := und62
        have i1 := i62 (idF (dst x L.t))
        clear hsrch d3 d4 d5 q3 q4 q5 hObl
        go_wp2
        go_region_held3 (fun w' => w'.cell? ⟨w.heap.size, 0, none⟩ = some (pb bl) ∧ w'.cell? ⟨bl, 46, none⟩ = some (slV L.bs L.n L.cap) ∧ w'.rangeAt db 0 (aL (idF (dst x L.t)))) (first | exact S4 | exact HS4.out _ (by assumption)) ((go_at_call 48; refine HSR.out.mono ?_; rintro _ w6 ⟨p, f, rfl, hp, hlo, hhi, hB6⟩))
        have HP6 : Hid (p ≤ L.n ∧ (∀ j, j < p → dst (L.X (L.E j)) L.t < dst x L.t) ∧ (∀ j, p ≤ j → j < L.n → dst x L.t ≤ dst (L.X (L.E j)) L.t)) := ⟨hp, hlo, hhi⟩
        have HB6 : Hid (Below W4.heap.size W4 w6) := (Below.refl _ W4).drew.trans hB6
        clear hp hlo hhi hB6 S4 HS4 HSR i1 uu
        have HG : Hid (∀ k, Own bl L k → k ≠ L.br → w6.heap[k]? = W2.heap[k]?) := fun k hk hne => by
          have h1 := HR2.out.own_lt hk
          rw [HB6.out.block k (Nat.lt_of_lt_of_le h1 (Nat.le_trans HS3.out hsz))]
          exact HH.out k hk hne
        have hGbl : w6.heap[bl]? = W2.heap[bl]? := HG.out bl (.inl rfl) nbr.out.1
        have g3 : w6.cell? ⟨w.heap.size, 0, none⟩ = some (pb bl) := (HB6.out.cell (p := ⟨w.heap.size, 0, none⟩) p3).trans f3
        have g46 : w6.cell? ⟨bl, 46, none⟩ = some (slV L.bs L.n L.cap) := (HB6.out.cell (p := ⟨bl, 46, none⟩) p5).trans f46
        have z6 : W4.heap.size ≤ w6.heap.size := HB6.out.size
        have b3' : w.heap.size < w6.heap.size := by omega
        have bl' : bl < w6.heap.size := by omega
        have HRw : Hid (Row w6 L.bs L.n L.cap L.E) := HR2.out.row.keep (fun hc => HG.out _ (.inr (.inr (.inl ⟨hc, rfl⟩))) (HR2.out.apart2.2 hc).2)
        have HIN : Hid (Calls Yba.prog 51 #[slV L.bs L.n L.cap, .int .i64 p, .slice (some ⟨w6.heap.size, 0, none⟩) 1 1] (w6.alloc (.cells #[.pointer (some ⟨w.heap.size + 2, 0, none⟩)] 74)).drew fun r w7 => ∃ bs' cap', r = .returned (.slice (some ⟨bs', 0, none⟩) (L.n + 1) cap') ∧ w7.cell? ⟨w.heap.size, 0, none⟩ = some (pb bl) ∧ w7.cell? ⟨bl, 46, none⟩ = some (slV L.bs L.n L.cap) ∧ w7.frozen? ⟨bl, 46, none⟩ = false ∧
            Hid (Row w7 bs' (L.n + 1) cap' (insE L.E p (w.heap.size + 2)) ∧ (bs' = L.bs ∧ 0 < L.cap ∨ w6.heap.size ≤ bs') ∧ bs' < w7.heap.size ∧ Chg (fun k => k = L.bs ∧ 0 < L.cap) w6 w7)) := by
          have hbs : 0 < L.cap → L.bs < w6.heap.size := fun hc => HRw.out.lt hc
          refine (insert_any _ L.bs L.n L.cap p (w.heap.size + 2) w6.heap.size 1 L.E HP6.out.1 HSm.out (HRw.out.keep (fun hc => ?_)) (fun hc => by have := hbs hc; omega) ?_ ?_ ?_ ?_).mono ?_
          · show (w6.alloc _).heap[L.bs]? = _
            exact ((Below.refl w6.heap.size w6).alloc (Nat.le_refl _) _).block _ (hbs hc)
          · show (w6.alloc _).cell? _ = _
            rw [World.cell?_alloc_at _ _ _ _ rfl]; rfl
          · show (w6.alloc _).shape? _ = _
            unfold World.shape? World.alloc
            rw [Array.getElem?_push_size]; rfl
          · show (w6.alloc _).frozen? _ = _
            exact World.frozen?_alloc_at _ _ _ _ rfl
          · show (w6.alloc _).frozen? _ = _
            exact World.frozen?_alloc_at _ _ _ _ rfl
          · rintro r w7 ⟨bs', cap', hr, hrow, hcase, hlt, hchg⟩
            have hC : Chg (fun k => k = L.bs ∧ 0 < L.cap) w6 w7 := (((Chg.refl _ w6).alloc _).drew).trans hchg (fun _ _ h => h)
            have n3 : ¬ (w.heap.size = L.bs ∧ 0 < L.cap) := fun ⟨h1, h2⟩ => by have := H.row.lt h2; omega
            have nb : ¬ (bl = L.bs ∧ 0 < L.cap) := fun ⟨h1, h2⟩ => (H.apart2.2 h2).1 h1.symm
            have hsl : slV bs' (L.n + 1) cap' = .slice (some ⟨bs', 0, none⟩) (L.n + 1) cap' := by have := hrow.le; unfold slV; rw [if_neg (by omega)]
            rw [hsl] at hr
            refine ⟨bs', cap', hr, (cell_of_heap (hC.block _ b3' n3) _).trans g3, (cell_of_heap (hC.block _ bl' nb) _).trans g46, (frozen_of_heap (hC.block _ bl' nb) _).trans ((frozen_of_heap hGbl _).trans (HR2.out.fields.thaw _)), ⟨hrow, ?_, hlt, hC⟩⟩
            rcases hcase with h | h
            · exact .inl h
            · right
              have : (w6.alloc (.cells #[.pointer (some ⟨w.heap.size + 2, 0, none⟩)] 74)).drew.heap.size = w6.heap.size + 1 := by simp
              omega
        clear f3 f46 f20 p3 p5 hGbl
        go_wp2
        go_cut [] from 55 (fun wd => ∃ w7 bs' cap', wd = w7.setCell ⟨bl, 46, none⟩ (.slice (some ⟨bs', 0, none⟩) (L.n + 1) cap') ∧ Hid (Row w7 bs' (L.n + 1) cap' (insE L.E p (w.heap.size + 2)) ∧ (bs' = L.bs ∧ 0 < L.cap ∨ w6.heap.size ≤ bs') ∧ bs' < w7.heap.size ∧ Chg (fun k => k = L.bs ∧ 0 < L.cap) w6 w7))
        case first =>
          go_region_with (go_at_call 51; refine HIN.out.mono ?_; rintro _ w7 ⟨bs', cap', rfl, k3, k46, kf, HK⟩)
          all_goals
            (go_wp2_with fail
             go_meet
             exact ⟨_, _, _, rfl, HK⟩)
        case rest =>
          rename World => wd
          obtain ⟨w7, bs', cap', hwd, HK⟩ := hcut
          obtain ⟨e, he⟩ : ∃ e, e = w.heap.size + 2 := ⟨_, rfl⟩
          have hsl : slV bs' (L.n + 1) cap' = .slice (some ⟨bs', 0, none⟩) (L.n + 1) cap' := by have := HK.out.1.le; unfold slV; rw [if_neg (by omega)]
          rw [← hsl] at hwd
          have z7 : w6.heap.size ≤ w7.heap.size := HK.out.2.2.2.size
          have hS7 : ∀ k, k < w6.heap.size → ¬ (k = L.bs ∧ 0 < L.cap) → w7.heap[k]? = w6.heap[k]? := HK.out.2.2.2.block
          have nb : ¬ (bl = L.bs ∧ 0 < L.cap) := fun ⟨h1, h2⟩ => (H.apart2.2 h2).1 h1.symm
          have n3 : ¬ (w.heap.size = L.bs ∧ 0 < L.cap) := fun ⟨h1, h2⟩ => by have := H.row.lt h2; omega
          have nd : ¬ (db = L.bs ∧ 0 < L.cap) := fun ⟨h1, h2⟩ => by have := H.row.lt h2; omega
          have ndb : db ≠ bl := fun h => by have := H.fields.lt; omega
          have nw : w.heap.size ≠ bl := fun h => by have := H.fields.lt; omega
          have hF7 : Fields w7 bl L := (HR2.out.fields.keep (HG.out bl (.inl rfl) nbr.out.1)).keep (hS7 _ bl' nb)
          have hF8 : Fields wd bl { L with bs := bs', n := L.n + 1, cap := cap' } := by rw [hwd]; exact hF7.setShort _ _ _
          have hC8 : Chg (fun k => (k = L.bs ∧ 0 < L.cap) ∨ k = bl) w6 wd := by rw [hwd]; exact (HK.out.2.2.2.wide (fun _ _ h => .inl h)).setCell _ _ (fun _ => .inr rfl)
          have hRow8 : Row wd bs' (L.n + 1) cap' (insE L.E p e) := by
            rw [hwd, he]
            refine HK.out.1.keep (fun _ => Below.heap_setCell _ _ _ _ ?_)
            rcases HK.out.2.1 with ⟨h1, h2⟩ | h1
            · rw [h1]; exact (H.apart2.2 h2).1
            · show bs' ≠ bl; omega
          have j3 : wd.cell? ⟨w.heap.size, 0, none⟩ = some (pb bl) := (cell_of_heap (hC8.block _ b3' (fun h => h.elim n3 nw)) _).trans g3
          have jd : arr? wd 20 db 0 = some (aL (idF (dst x L.t))) := (arr_of_heap (hC8.block _ (by omega) (fun h => h.elim nd ndb)) _ _).trans ((arr?_congr fun j _ => HB6.out.cell (p := ⟨db, 0 + j, none⟩) hdb').trans hD)
          have j48 : arr? wd 20 bl 48 = some (aL L.N) := hF8.near
          have j68 : wd.cell? ⟨bl, 68, none⟩ = some (.int .i64 L.adv) := hF8.adv
          have j69 : wd.cell? ⟨bl, 69, none⟩ = some (.int .i64 L.stalled) := hF8.stalled
          have jc : can? wd 20 bl 48 = true := can_near hF8
          have jf8 : wd.frozen? ⟨bl, 68, none⟩ = false := hF8.thaw _
          have jf9 : wd.frozen? ⟨bl, 69, none⟩ = false := hF8.thaw _
          have z8 : w6.heap.size ≤ wd.heap.size := hC8.size
          have y3 : w.heap.size < wd.heap.size := by omega
          have y5 : bl < wd.heap.size := by omega
          have yd : db < wd.heap.size := by omega
          have HNB : Hid (Byt L.N) := H.nbyte
          have hadv := H.advs
          have hsm := H.small
          have ha1 : IntKind.i64.wrap (L.adv + 1) = L.adv + 1 := by rw [IntKind.wrap_i64]; omega
          have HF8 : Hid (Fields wd bl { L with bs := bs', n := L.n + 1, cap := cap' }) := hF8
          have HC8 : Hid (Chg (fun k => (k = L.bs ∧ 0 < L.cap) ∨ k = bl) w6 wd) := hC8
          have HRow8 : Hid (Row wd bs' (L.n + 1) cap' (insE L.E p e)) := hRow8
          have NN : Hid (¬ (bl = L.bs ∧ 0 < L.cap) ∧ w.heap.size ≠ bl) := ⟨nb, nw⟩
          have FIN : Hid (∀ w', Chg (fun k => k = bl) wd w' → Fields w' bl (L.add x d e p bs' cap') → AddPost w bl L x d (.returned (.tuple #[])) w') := fun w' hc' hf' => by
            have hAll : Chg (fun k => (k = L.bs ∧ 0 < L.cap) ∨ k = bl) w6 w' := hC8.trans hc' (fun k _ h => .inr h)
            have hlt3 : ∀ k, k < W3.heap.size → k ≠ bl → ¬ (k = L.bs ∧ 0 < L.cap) → w'.heap[k]? = W3.heap[k]? := fun k hk h1 h2 => by
              rw [hAll.block k (by omega) (fun h => h.elim h2 h1), HB6.out.block k (by omega), HB4.block k hk]
            have hbr := H.map.lt
            have hbl := H.fields.lt
            have hne : e ≠ L.br := by rw [he]; exact nbr.out.2.2.2
            have hbsw : 0 < L.cap → L.bs < w.heap.size := fun h => H.row.lt h
            have hbs8 : bs' < wd.heap.size := Nat.lt_of_lt_of_le HK.out.2.2.1 (by rw [hwd, World.size_setCell]; exact Nat.le_refl _)
            have hbb : bs' ≠ bl := by
              rcases HK.out.2.1 with ⟨h1, h2⟩ | h1
              · rw [h1]; exact (H.apart2.2 h2).1
              · omega
            refine ⟨rfl, .inr ⟨hself, hf, e, p, bs', cap', by omega, ?_, ?_, HP6.out.1, ?_⟩⟩
            · refine H.added HX.out HD.out hf (by omega) HP6.out.1 HP6.out.2.1 HP6.out.2.2 hf' ?_ (hRow8.keep (fun _ => hc'.block _ hbs8 hbb)) ?_ ?_ ?_ ?_
              · rw [he]
                exact HM3.of_block (hlt3 _ (by omega) (Ne.symm nbr.out.1) (fun ⟨h1, h2⟩ => (H.apart2.2 h2).2 h1.symm))
              · rcases HK.out.2.1 with h | h
                · exact .inl h
                · exact .inr (by omega)
              · rcases HK.out.2.1 with ⟨h1, h2⟩ | h1
                · have := hbsw h2; omega
                · omega
              · have hE3 : W3.heap[e]? = W2.heap[e]? := HB3.out e hne
                have hE' : w'.heap[e]? = W3.heap[e]? := hlt3 e (by omega) (by omega) (fun ⟨h1, h2⟩ => by have := hbsw h2; omega)
                have := dE.out.keep (w' := w') (by rw [← he]; exact hE'.trans hE3)
                rw [← he] at this
                exact this
              · intro i hi
                have hEi := (H.ent i hi).lt
                have hap := H.apart i hi
                rw [hlt3 _ (by omega) hap.1 (fun ⟨h1, h2⟩ => hap.2.2 h2 h1), HB3.out _ hap.2.1, HW2.out.block _ hEi]
            · rcases HK.out.2.1 with h | h
              · exact .inl h
              · exact .inr (by omega)
            · refine ⟨hAll.os.trans (HB6.out.os.trans (HB4.os.trans (ho3.trans HW2.out.os))), hAll.tape.trans (HB6.out.tape.trans (HB4.tape.trans (ht3.trans HW2.out.tape))), hAll.output.trans (HB6.out.output.trans (HB4.output.trans (hu3.trans HW2.out.output))), by have := hAll.size; omega, fun k hk hnk => ?_⟩
              rw [hlt3 k (by omega) (fun h => hnk (.inl h)) (fun ⟨h1, h2⟩ => hnk (.inr (.inr ⟨h2, h1⟩))), HB3.out k (fun h => hnk (.inr (.inl h))), HW2.out.block k hk]
          clear hadv hsm hS7 hsl hwd hF7 hF8 hC8 hRow8 nb n3 nd ndb nw hD g3 g46 HB4 ho3 ht3 hu3 HM3
          go_wp2
          refine wp_region_up (by kernel_rfl) (by kernel_rfl) ?_
          repeat (go_big_quiet_step ((go_at_call 50; exact up_call (cmp_any _ _ (byt_id HDb.out) HNB.out _))))
          refine wpQuiet_nil ?_
          intro _ hw
          obtain ⟨g, rfl⟩ := hw
          by_cases hc : cmpF (idF (dst x L.t)) L.N < 0
          · go_wp2
            go_end0
            refine FIN.out _ ?_ ?_
            · exact fin_chg wd g bl _ _
            · exact fin_fields HF8.out y5 hc
          · go_wp2
            go_end0
            exact FIN.out _ (Chg.ofNew (up_below wd g)) (fin_fields' HF8.out y5 (by omega))
end Go.Proofs.Ybulkchfs
