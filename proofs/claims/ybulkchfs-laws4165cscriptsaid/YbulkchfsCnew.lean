/- CONTRACT OF zzs4165cnew (17). -/
import Derived.Test.YbulkchfsNew
import Derived.Test.YbulkchfsContacts
import Derived.Deep.RegionLaw
namespace Go.Proofs.Ybulkchfs
open Go.RowKit Go.Lib
set_option linter.unusedVariables false
set_option linter.unusedSimpArgs false
attribute [local go_sem ↓] ldI_eq ldC_eq stI_eq stC_eq bxI_eq bxC_eq nwI_eq nwC_eq bdC_eq bsC_eq mkC_eq
attribute [local go_sem] load_id load_contact store_id store_contact box_id box_contact new_id new_contact build_contact build_contacts
attribute [local go_sem] arr?_drew arr?_drewN arr?_alloc_past arr?_alloc_at arr?_setCell arr?_setA arr?_setA_same can?_drew can?_drewN can?_alloc_past can?_alloc_at can?_setCell can?_setA cell_setA frozen_setA size_setA agg_aL agg_cL size_aL size_cL length_aL length_cL

def bdS (p : Array (Nat × Value)) : Sem Value := Instr.build 116 p
theorem bdS_eq (p : Array (Nat × Value)) : Instr.build 116 p = bdS p := rfl
theorem build_settings (k al : Int) (w : World) : (bdS #[(0, .int .i64 k), (1, .int .i64 al)]).run Yba.prog w = .ok (.agg #[.int .i64 k, .int .i64 al, .int .i64 0]) w := by kernel_rfl
attribute [local go_sem ↓] bdS_eq
attribute [local go_sem] build_settings

/-- The list in its variable bv: n contacts at block zb. -/
structure Lst (w : World) (bv zb n zcap : Nat) (Z : Nat → Int) (wr : World) : Prop where
  cell : wr.cell? ⟨bv, 0, none⟩ = some (.slice (some ⟨zb, 0, none⟩) n zcap)
  thaw : wr.frozen? ⟨bv, 0, none⟩ = false
  pos : 0 < zcap
  row : RowW wr 24 zb n zcap (conts Z)
  ne : zb ≠ bv
  new : w.heap.size ≤ zb ∧ w.heap.size ≤ bv
  below : Below w.heap.size w wr

theorem Lst.push {w wr w1 : World} {bv zb n zcap : Nat} {Z : Nat → Int} (h : Lst w bv zb n zcap Z wr) (hb : Below wr.heap.size wr w1) (hn : n < 1000) (x : Int) :
    ∃ w' zb' cap', (Builtin.append_ #[59, 59] 59 #[.slice (some ⟨zb, 0, none⟩) n zcap, .slice (some ⟨w1.heap.size, 0, none⟩) 1 1]).run Yba.prog (w1.alloc (.cells (cL (idF x)).toArray 73)) = .ok (.slice (some ⟨zb', 0, none⟩) (n + 1) cap') w' ∧
      w'.cell? ⟨bv, 0, none⟩ = some (.slice (some ⟨zb, 0, none⟩) n zcap) ∧ w'.frozen? ⟨bv, 0, none⟩ = false ∧
      Hid (Lst w bv zb' (n + 1) cap' (fun j => if j = n then x else Z j) (w'.setCell ⟨bv, 0, none⟩ (.slice (some ⟨zb', 0, none⟩) (n + 1) cap'))) := by
  obtain ⟨w', zb', cap', e1, e2, e3, e4, e5⟩ := push_contact wr w1 zb n zcap (some ⟨zb, 0, none⟩) Z x h.row (by rw [if_neg (by have := h.pos; omega)]) hb hn
  have hbv : bv < wr.heap.size := block_lt_of_cell h.cell
  have hws := h.below.size
  have hblk : w'.heap[bv]? = wr.heap[bv]? := e5.block bv hbv (fun ⟨h1, _⟩ => h.ne h1.symm)
  have hc : w'.cell? ⟨bv, 0, none⟩ = some (.slice (some ⟨zb, 0, none⟩) n zcap) := (cell_of_heap hblk _).trans h.cell
  have hf : w'.frozen? ⟨bv, 0, none⟩ = false := (frozen_of_heap hblk _).trans h.thaw
  have hne : zb' ≠ bv := by
    rcases e3 with ⟨h1, _⟩ | h1
    · rw [h1]; exact h.ne
    · omega
  refine ⟨w', zb', cap', e1, hc, hf, ?_⟩
  have hz : w.heap.size ≤ zb' := by
    rcases e3 with ⟨h1, _⟩ | h1
    · rw [h1]; exact h.new.1
    · omega
  refine ⟨cell_set_same _ hc, (World.frozen?_setCell _ _ _ _).trans hf, by have := e2.le; omega, e2.keep (fun _ => set_bl _ _ _ _ _ hne), hne, ⟨hz, h.new.2⟩, ?_⟩
  have h1 : Below w.heap.size w w' := h.below.trans (e5.below hws (fun k hk ⟨h1, h2⟩ => by have := h.new.1; omega))
  exact h1.setCell h.new.2 _

/-- append, its run given, as one step of a region that draws. -/
theorem step_append_run {ops : Array Oper} {o : Oper} {a : Act} {w : World} {K : Act → World → Prop} {Q : Exit → Act → World → Prop} {E : Prop}
    (hg : o.guard = none) (s x : Operand) (t : TypeId) (hop : o.op = Op.call { callee := Callee.builtin Builtin.append, args := #[s, x], argTypes := #[t, t] })
    (sv xv : Value) (hs : a.eval s = sv) (hx : a.eval x = xv) (v' : Value) (w' : World) (hrun : (Builtin.append_ #[t, t] o.type #[sv, xv]).run Yba.prog w = .ok v' w') (hK : K (a.put o.dst v') w') :
    if Region.wanted o (yielded ops a.tmps) = true then Oper.wp Yba.prog o a w K Q else E := by
  have hw : Region.wanted o (yielded ops a.tmps) = true := by simp [Region.wanted, hg]
  rw [if_pos hw]
  unfold Oper.wp
  simp [execOp, hop, resolve, invoke, builtin, hs, hx, hrun, Result.andThen]
  exact hK
/-- The call of zzs4165cid, as one step of a region that draws. -/
theorem step_cid {ops : Array Oper} {o : Oper} {a : Act} {w : World} {K : Act → World → Prop} {Q : Exit → Act → World → Prop} {E : Prop}
    (hg : o.guard = none) (x : Operand) (hop : o.op = Op.call { callee := Callee.value (Operand.func 19), args := #[x], argTypes := #[5] })
    (b : Int) (hx : a.eval x = .int .u8 b) (hK : ∀ w1, Hid (Below w.heap.size w w1) → K (a.put o.dst (aV (idF b))) w1) :
    if Region.wanted o (yielded ops a.tmps) = true then Oper.wp Yba.prog o a w K Q else E := by
  have hw : Region.wanted o (yielded ops a.tmps) = true := by simp [Region.wanted, hg]
  rw [if_pos hw]
  unfold Oper.wp
  have hr : (execOp a.eval o).run Yba.prog w = .ok (.enter 19 #[.int .u8 b]) w := by
    simp only [execOp, hop, resolve]
    go_simp
    cases x <;> (simp [Act.eval] at hx; try exact hx)
  rw [hr, Oper.upon_enter]
  refine (cid_any b w).mono ?_
  rintro _ w1 ⟨rfl, h⟩
  exact hK w1 h

/-- What the list bears: the first contact and those of the bytes. -/
def lsZ (self : Int) (B : Nat → Int) : Nat → Int := fun j => if j = 0 then IntKind.u8.wrap (self + 1) else B (j - 1)
theorem u8_byte (x : Int) : 0 ≤ IntKind.u8.wrap x ∧ IntKind.u8.wrap x ≤ 255 := by
  have : IntKind.u8.wrap x = x % 256 := IntKind.wrap_u8 x
  rw [this]; omega

theorem Lst.congr {w wr : World} {bv zb n zcap : Nat} {Z Z' : Nat → Int} (h : Lst w bv zb n zcap Z wr) (e : ∀ j, j < n → Z j = Z' j) : Lst w bv zb n zcap Z' wr :=
  ⟨h.cell, h.thaw, h.pos, h.row.congr (fun j hj => by show cL (idF (Z j)) = cL (idF (Z' j)); rw [e j hj]), h.ne, h.new, h.below⟩

set_option maxRecDepth 100000 in
theorem cnew_any (w : World) (self t kb ab : Int) (ad : Option Addr) (n cap : Nat) (B : Nat → Int) (hB : Bytes w ad n B) (hn : n ≤ 512) (hs : 0 ≤ self ∧ self ≤ 255) (ht : 0 ≤ t ∧ t ≤ 255) (hkb : 0 ≤ kb ∧ kb ≤ 255) (hab : 0 ≤ ab ∧ ab ≤ 255) (kn : Nat) (hkn : (kn : Int) = 1 + kb % 20) :
    Calls Yba.prog 17 #[.int .u8 self, .int .u8 t, .int .u8 kb, .int .u8 ab, .slice ad n cap] w (NewPost w self t (1 + ab % 4) kn) := by
  have hmk : ∀ w0 : World, (mkC (.int .i64 0) (.int .i64 ((n : Int) + 1))).run Yba.prog w0 = .ok (.slice (some ⟨w0.heap.size, 0, none⟩) 0 (n + 1)) (w0.alloc (.cells (madeC (n + 1)) 73)) := fun w0 => make_contacts w0 (n + 1) (by omega)
  have HB : Hid (Bytes w ad n B) := hB
  have HZ : Hid ((0 ≤ self ∧ self ≤ 255) ∧ (0 ≤ t ∧ t ≤ 255) ∧ (0 ≤ kb ∧ kb ≤ 255) ∧ (0 ≤ ab ∧ ab ≤ 255) ∧ (kn : Int) = 1 + kb % 20) := ⟨hs, ht, hkb, hab, hkn⟩
  obtain ⟨bv, hbv⟩ : ∃ bv, bv = w.heap.size + 1 := ⟨_, rfl⟩
  clear hB hs ht hkb hab hkn
  go_enter Yba.func17, Yba.ntmps17
  go_upto_region 2 with fail
  obtain ⟨W, hW⟩ : ∃ W, W = (w.alloc (.cells (madeC (n + 1)) 73)).alloc (.cells #[.slice (some ⟨w.heap.size, 0, none⟩) 0 (n + 1)] 59) := ⟨_, rfl⟩
  rw [← hW, ← hbv]
  have hL0 : Lst w bv w.heap.size 0 (n + 1) (lsZ self B) W := by
    have h1 : (w.alloc (.cells (madeC (n + 1)) 73)).heap.size = w.heap.size + 1 := by simp
    rw [hW, hbv]
    refine ⟨?_, World.frozen?_alloc_at _ _ _ _ h1.symm, by omega, (row_made w (n + 1) (by omega) _).keep (fun _ => ?_), by omega, ⟨Nat.le_refl _, by omega⟩, ?_⟩
    · rw [World.cell?_alloc_at _ _ _ _ h1.symm]; rfl
    · exact ((Below.refl _ _).alloc (Nat.le_refl _) _).block _ (by omega)
    · exact ((Below.refl _ w).alloc (Nat.le_refl _) _).alloc (by omega) _
  have HL0 : Hid (Lst w bv w.heap.size 0 (n + 1) (lsZ self B) W) := hL0
  have c0 := hL0.cell
  clear hL0 hW hmk hbv
  go_cut [] from 14 (fun wc => ∃ zb zcap, Lst w bv zb 1 zcap (lsZ self B) wc)
  case first =>
    have HP : Hid (∀ w1, Below W.heap.size W w1 → ∃ w' zb' cap', (Builtin.append_ #[59, 59] 59 #[.slice (some ⟨w.heap.size, 0, none⟩) 0 (n + 1), .slice (some ⟨w1.heap.size, 0, none⟩) 1 1]).run Yba.prog (w1.alloc (.cells (cL (idF (IntKind.u8.wrap (self + 1)))).toArray 73)) = .ok (.slice (some ⟨zb', 0, none⟩) (0 + 1) cap') w' ∧
      w'.cell? ⟨bv, 0, none⟩ = some (.slice (some ⟨w.heap.size, 0, none⟩) 0 (n + 1)) ∧ w'.frozen? ⟨bv, 0, none⟩ = false ∧ w1.cell? ⟨bv, 0, none⟩ = some (.slice (some ⟨w.heap.size, 0, none⟩) 0 (n + 1)) ∧ bv < w1.heap.size ∧
      Hid (∃ zb zcap, Lst w bv zb 1 zcap (lsZ self B) (w'.setCell ⟨bv, 0, none⟩ (.slice (some ⟨zb', 0, none⟩) (0 + 1) cap')))) := fun w1 h1 => by
      obtain ⟨w', zb', cap', e1, e2, e3, e4⟩ := HL0.out.push h1 (by omega) (IntKind.u8.wrap (self + 1))
      refine ⟨w', zb', cap', e1, e2, e3, (h1.cell (p := ⟨bv, 0, none⟩) (block_lt_of_cell HL0.out.cell)).trans HL0.out.cell, Nat.lt_of_lt_of_le (block_lt_of_cell HL0.out.cell) h1.size, zb', cap', e4.out.congr (fun j hj => ?_)⟩
      have : j = 0 := by omega
      subst this
      rfl
    go_region_law (first | (refine step_cid rfl _ rfl _ (by simp [Act.eval, Act.put]; rfl) ?_; intro w1 HB1; obtain ⟨w9, zb', cap', hrun, k1, k2, k3, k4, HK⟩ := HP.out w1 ⟨HB1.out.os, HB1.out.tape, HB1.out.output, HB1.out.size, HB1.out.block⟩) | (refine step_append_run rfl _ _ 59 rfl _ _ (by simp [Act.eval, Act.put]) (by simp [Act.eval, Act.put]) _ _ hrun ?_))
    all_goals
      go_wp2
      go_meet
      exact HK.out
  case rest =>
    obtain ⟨zb0, zcap0, hL1⟩ := hcut
    rename World => W1
    have HL1 : Hid (Lst w bv zb0 1 zcap0 (lsZ self B) W1) := hL1
    clear hL1 c0 HL0
    go_wp2
    go_loopw [12] (fun ix wr => ∃ (i zb zcap : Nat), ix = .int .i64 (i : Int) ∧ i ≤ n ∧ Lst w bv zb (i + 1) zcap (lsZ self B) wr) (fun ix _ => n - (RowKit.intOf ix).toNat)
    case atStart => exact ⟨0, zb0, zcap0, rfl, Nat.zero_le _, HL1.out⟩
    case round =>
      obtain ⟨i, zb, zcap, rfl, hin, hl⟩ := hrel
      have HL : Hid (Lst w bv zb (i + 1) zcap (lsZ self B) wr) := hl
      clear hl
      by_cases hlt : i < n
      · obtain ⟨b, o, rfl, hbw, hcell⟩ := HB.out.at' (by omega)
        have hc : wr.cell? ⟨b, o + i, none⟩ = some (.int .u8 (B i)) := (HL.out.below.cell (p := ⟨b, o + i, none⟩) hbw).trans (hcell i hlt)
        have cl := HL.out.cell
        have hi1 : (0 : Int) ≤ (i : Int) := by omega
        have hi2 : (i : Int) < (n : Int) := by omega
        obtain ⟨x, hx⟩ : ∃ x, x = B i := ⟨_, rfl⟩
        rw [← hx] at hc
        have HP : Hid (∀ w1, Below wr.heap.size wr w1 → ∃ w' zb' cap', (Builtin.append_ #[59, 59] 59 #[.slice (some ⟨zb, 0, none⟩) (i + 1) zcap, .slice (some ⟨w1.heap.size, 0, none⟩) 1 1]).run Yba.prog (w1.alloc (.cells (cL (idF x)).toArray 73)) = .ok (.slice (some ⟨zb', 0, none⟩) (i + 1 + 1) cap') w' ∧
          w'.cell? ⟨bv, 0, none⟩ = some (.slice (some ⟨zb, 0, none⟩) (i + 1) zcap) ∧ w'.frozen? ⟨bv, 0, none⟩ = false ∧ w1.cell? ⟨bv, 0, none⟩ = some (.slice (some ⟨zb, 0, none⟩) (i + 1) zcap) ∧ bv < w1.heap.size ∧
          Hid (Lst w bv zb' (i + 1 + 1) cap' (lsZ self B) (w'.setCell ⟨bv, 0, none⟩ (.slice (some ⟨zb', 0, none⟩) (i + 1 + 1) cap')))) := fun w1 h1 => by
          obtain ⟨w', zb', cap', e1, e2, e3, e4⟩ := HL.out.push h1 (by omega) x
          refine ⟨w', zb', cap', e1, e2, e3, (h1.cell (p := ⟨bv, 0, none⟩) (block_lt_of_cell HL.out.cell)).trans HL.out.cell, Nat.lt_of_lt_of_le (block_lt_of_cell HL.out.cell) h1.size, e4.out.congr (fun j hj => ?_)⟩
          unfold lsZ
          by_cases hj' : j = i + 1
          · subst hj'
            rw [if_pos rfl, if_neg (by omega)]
            exact hx
          · rw [if_neg hj']
        clear hx hcell
        go_wp2
        go_region_law (first | (refine step_cid rfl _ rfl _ (by simp [Act.eval, Act.put]; rfl) ?_; intro w1 HB1; obtain ⟨w9, zb', cap', hrun, k1, k2, k3, k4, HK⟩ := HP.out w1 ⟨HB1.out.os, HB1.out.tape, HB1.out.output, HB1.out.size, HB1.out.block⟩) | (refine step_append_run rfl _ _ 59 rfl _ _ (by simp [Act.eval, Act.put]) (by simp [Act.eval, Act.put]) _ _ hrun ?_))
        all_goals
          go_wp2
          exact ⟨⟨i + 1, zb', cap', by simp, by omega, HK.out⟩, by simp only [RowKit.intOf]; omega⟩
      · obtain rfl : i = n := by omega
        obtain ⟨hs', ht', hkb', hab', hkn'⟩ := HZ.out
        have HNEW : Hid (∀ w2, Below wr.heap.size wr w2 → Calls Yba.prog 36 #[aV (idF self), aV (idF t), .func (.func 35) #[] #[pb bv], .agg #[.int .i64 (kn : Int), .int .i64 (1 + ab % 4), .int .i64 0]] w2 fun r w' => ∃ bl, r = .returned (pb bl) ∧ Hid (NewPost w self t (1 + ab % 4) kn (.returned (pb bl)) w')) := fun w2 h2 => by
          have hzl : zb < wr.heap.size := HL.out.row.lt (by omega) HL.out.pos
          refine (new_any w2 self t (1 + ab % 4) kn bv zb (i + 1) zcap (lsZ self B) ht' (by omega) ((h2.cell (p := ⟨bv, 0, none⟩) (block_lt_of_cell HL.out.cell)).trans HL.out.cell) (by omega) (HL.out.row.keep (fun _ => h2.block _ hzl)) (fun j hj => ?_)).mono ?_
          · unfold lsZ
            by_cases hj0 : j = 0
            · rw [if_pos hj0]; exact u8_byte _
            · rw [if_neg hj0]; exact HB.out.byte (j - 1) (by omega)
          · rintro r w' ⟨bl, L, rfl, h3, h4, h5⟩
            have hws : w.heap.size ≤ w2.heap.size := Nat.le_trans HL.out.below.size h2.size
            refine ⟨bl, rfl, bl, L, rfl, h3, fun k hk => Nat.le_trans hws (h4 k hk), h5.1, h5.2.1, h5.2.2.1, h5.2.2.2.1, h5.2.2.2.2.1, h5.2.2.2.2.2.1, h5.2.2.2.2.2.2.1, h5.2.2.2.2.2.2.2.1, h5.2.2.2.2.2.2.2.2.1, ?_⟩
            exact (HL.out.below.trans (h2.mono HL.out.below.size)).trans (h5.2.2.2.2.2.2.2.2.2.mono hws)
        have q1 : wrap64 (1 + wrap64 (kb.tmod 20)) = (kn : Int) := by
          rw [Int.tmod_eq_emod_of_nonneg hkb'.1, IntWalk.wrap64_in (kb % 20) (by omega), IntWalk.wrap64_in _ (by omega)]
          omega
        have q2 : wrap64 (1 + wrap64 (ab.tmod 4)) = 1 + ab % 4 := by
          rw [Int.tmod_eq_emod_of_nonneg hab'.1, IntWalk.wrap64_in (ab % 4) (by omega), IntWalk.wrap64_in _ (by omega)]
        have HQ : Hid (wrap64 (1 + wrap64 (kb.tmod 20)) = (kn : Int) ∧ wrap64 (1 + wrap64 (ab.tmod 4)) = 1 + ab % 4) := ⟨q1, q2⟩
        clear hs' ht' hkb' hab' hkn' q1 q2
        go_wp2_with (first | (go_at_call_of 19 (Value.int IntKind.u8 self); refine (cid_hid _ _).mono ?_; rintro _ w1 ⟨rfl, HB1⟩) | (go_at_call_of 19 (Value.int IntKind.u8 t); refine (cid_hid _ _).mono ?_; rintro _ w2 ⟨rfl, HB2⟩))
        rw [HQ.out.1, HQ.out.2]
        refine (HNEW.out w2 ?_).mono ?_
        · exact HB1.out.trans (HB2.out.mono HB1.out.size)
        · rintro _ w9 ⟨bl, rfl, HK⟩
          go_wp2
          go_ret
          exact HK.out
end Go.Proofs.Ybulkchfs
