/- THE LOOKUP AS THE TWO LAWS HOLD IT: 'Good', and the contracts of zzs4165cnew, Next, Replied on it; a row of ids that grows. -/
import Derived.Test.YbulkchfsCnew
import Derived.Test.YbulkchfsScan
namespace Go.Proofs.Ybulkchfs
open Go.RowKit Go.Lib
set_option linter.unusedVariables false
set_option linter.unusedSimpArgs false

structure Good (w0 W : World) (bl : Nat) (L : St) (sf t : Int) (kn : Nat) : Prop where
  rep : Rep W bl L
  fresh : Fresh w0.heap.size bl L
  below : Below w0.heap.size w0 W
  self' : L.self = sf
  t' : L.t = t
  k : L.k = (kn : Int)
  drawn : L.drawn = L.k
  out : L.out = L.active
  st : ∀ i, i < L.n → L.S (L.E i) ≠ 5 ∧ L.S (L.E i) ≠ 2
  ans : 0 ≤ L.answered

/-- Kept where none of the lookup's blocks turns. -/
theorem Good.chg {w0 W W' : World} {bl : Nat} {L : St} {sf t : Int} {kn : Nat} {S : Nat → Prop} (h : Good w0 W bl L sf t kn) (c : Chg S W W') (hS : ∀ k, Own bl L k → ¬ S k) (hS' : ∀ k, S k → w0.heap.size ≤ k) : Good w0 W' bl L sf t kn :=
  { h with rep := h.rep.chg c hS, below := h.below.trans (c.below h.below.size (fun k hk hs => by have := hS' k hs; omega)) }
theorem Good.new {w0 W W' : World} {bl : Nat} {L : St} {sf t : Int} {kn : Nat} (h : Good w0 W bl L sf t kn) (c : Below W.heap.size W W') : Good w0 W' bl L sf t kn :=
  { h with rep := h.rep.below c, below := h.below.trans (c.mono h.below.size) }
theorem Good.drewN {w0 W : World} {bl : Nat} {L : St} {sf t : Int} {kn : Nat} (h : Good w0 W bl L sf t kn) (n : Nat) : Good w0 (W.drewN n) bl L sf t kn :=
  h.new (Below.drewN (Below.refl _ _) n)

theorem good_new (w : World) (sf t kb ab : Int) (ad : Option Addr) (n cap : Nat) (B : Nat → Int) (hB : Bytes w ad n B) (hn : n ≤ 512) (hs : 0 ≤ sf ∧ sf ≤ 255) (ht : 0 ≤ t ∧ t ≤ 255) (hkb : 0 ≤ kb ∧ kb ≤ 255) (hab : 0 ≤ ab ∧ ab ≤ 255) (kn : Nat) (hkn : (kn : Int) = 1 + kb % 20) :
    Calls Yba.prog 17 #[.int .u8 sf, .int .u8 t, .int .u8 kb, .int .u8 ab, .slice ad n cap] w fun r w' => ∃ bl L, r = .returned (pb bl) ∧ Good w w' bl L sf t kn ∧ L.active = 0 ∧ L.answered = 0 ∧ (∀ i, i < L.n → L.S (L.E i) = 0) := by
  refine (cnew_any w sf t kb ab ad n cap B hB hn hs ht hkb hab kn hkn).mono ?_
  rintro r w' ⟨bl, L, rfl, h1, h2, h3, h4, h5, h6, h7, h8, h9, h10, h11, h12⟩
  refine ⟨bl, L, rfl, ⟨h1, h2, h12, h5, h6, h3, h7, by rw [h8, h9], fun i hi => ?_, by rw [h10]; exact Int.le_refl _⟩, h8, h10, h11⟩
  rw [h11 i hi]
  omega

theorem good_next {w0 W : World} {bl : Nat} {L : St} {sf t : Int} {kn : Nat} (h : Good w0 W bl L sf t kn) (hkn : kn ≤ 1000) (hact : -100000 ≤ L.active ∧ L.active ≤ 100000) :
    Calls Yba.prog 18 #[pb bl] W fun r W' => ∃ (bb m cap : Nat) (ad : Option Addr) (Y : Nat → Int) (L' : St), r = .returned (.slice ad m cap) ∧ (0 < cap → ad = some ⟨bb, 0, none⟩) ∧ m ≤ kn ∧ RowW W' 24 bb m cap (conts Y) ∧ (0 < cap → W.heap.size ≤ bb) ∧ Good w0 W' bl L' sf t kn ∧ Asked L L' m Y ∧ Chg (Own bl L) W W' := by
  refine (next_any W bl L kn h.rep h.k hkn h.drawn h.out hact h.st).mono ?_
  rintro r W' ⟨bb, m, cap, Y, L', rfl, h1, h2, h3, h4, h5, h6⟩
  refine ⟨bb, m, cap, _, Y, L', rfl, fun hc => if_neg (by omega), h1, h2, h3, ?_, h5, h6⟩
  have hs := h5.same
  have hOwn : ∀ k, Own bl L' k → Own bl L k := fun k hk => by rw [hs] at hk; exact hk
  refine ⟨h4, fun k hk => h.fresh k (hOwn k hk), h.below.trans (h6.below h.below.size (fun k hk ho => by have := h.fresh k ho; omega)), by rw [hs]; exact h.self', by rw [hs]; exact h.t', by rw [hs]; exact h.k, by rw [hs]; exact h.drawn, ?_, ?_, by rw [hs]; exact h.ans⟩
  · rw [hs]
    show L.out + _ = L.active + _
    rw [h.out]
  · intro i hi
    have hE : L'.E = L.E := by rw [hs]
    have hn : L'.n = L.n := by rw [hs]
    rw [hE]
    rw [hn] at hi
    rcases h5.turn i hi with h7 | ⟨h7, h8⟩
    · rw [h7]; exact h.st i hi
    · rw [h8]; omega

theorem foldP_answered (L : St) (a : Int) (Z : Nat → Int) : ∀ m, foldP { L with answered := a } Z m = foldP L Z m
  | 0 => rfl
  | m + 1 => by
    show stepP { L with answered := a } (foldP { L with answered := a } Z m) (Z m) = stepP L (foldP L Z m) (Z m)
    rw [foldP_answered L a Z m]
    rfl

/-- What Replied leaves, of use to the laws. -/
structure After (B : Nat) (L L' : St) (e : Nat) (d : Int) (p : Pn) : Prop where
  n : L'.n = L.n + p.new.length
  N : L'.N = p.N
  adv : L'.adv = p.adv
  stalled : L'.stalled = (if L.T e = p.adv then (if p.reset then 0 else L.stalled) + 1 else (if p.reset then 0 else L.stalled))
  new : ∀ x, x ∈ p.new → ∃ b i, findK L'.K x = some b ∧ i < L'.n ∧ b = L'.E i ∧ L'.S b = 0 ∧ L'.D b = d
  oldK : ∀ x b, findK L.K x = some b → findK L'.K x = some b
  unk : ∀ x, findK L.K x = none → x ∉ p.new → findK L'.K x = none
  old : ∀ i, i < L.n → L.E i ≠ e → L'.S (L.E i) = L.S (L.E i) ∧ L'.X (L.E i) = L.X (L.E i)
  has : ∀ i, i < L.n → ∃ j, j < L'.n ∧ L'.E j = L.E i
  se : L'.S e = 3
  active : L'.active = L.active - 1
  answered : L'.answered = L.answered + 1

theorem good_replied {w0 W : World} {bl : Nat} {L : St} {sf t : Int} {kn : Nat} (h : Good w0 W bl L sf t kn) (hkn : kn ≤ 1000) (x : Int) (e zb zn zcap : Nat) (ad : Option Addr) (Z : Nat → Int) (had : 0 < zcap → ad = some ⟨zb, 0, none⟩) (hfind : findK L.K x = some e) (hpend : L.S e = 1) (hzn : zn ≤ 100000)
    (hrow : RowW W 24 zb zn zcap (conts Z)) (hbyte : ∀ j, j < zn → 0 ≤ Z j ∧ Z j ≤ 255) (hzo : 0 < zcap → ¬ Own bl L zb) (hans : L.answered ≤ 10000) (hact : -100000 ≤ L.active ∧ L.active ≤ 100000) :
    Calls Yba.prog 24 #[pb bl, cV (idF x), .slice ad zn zcap] W fun r W' => r = .returned (.tuple #[]) ∧ ∃ L', Good w0 W' bl L' sf t kn ∧ After W.heap.size L L' e (L.D e + 1) (foldP L Z (min kn zn)) ∧ Chg (Own bl L) W W' := by
  refine (replied_any W bl L x e zb zn zcap kn ad Z had h.rep h.k hkn hfind hpend hzn hrow hbyte hzo ⟨h.ans, hans⟩ hact (by rw [h.out]; exact hact)).mono ?_
  rintro r W' ⟨hr, L1, hG, hR, hC⟩
  rw [foldP_answered] at hG
  obtain ⟨r1, r2, r3, r4, r5, r6, r7, r8, r9, r10, r11⟩ := hG.rest
  obtain ⟨i0, hi0, hE0, hX0⟩ := h.rep.back x e hfind
  have he : e < W.heap.size := by rw [← hE0]; exact (h.rep.ent i0 hi0).lt
  have hT : L1.T e = L.T e := by have := (hG.old i0 hi0).2.2.2; rw [show ({ L with answered := L.answered + 1 } : St).E i0 = e from hE0] at this; exact this
  refine ⟨hr, L1.ended e L.active L.out, ⟨hR, ?_, h.below.trans (hC.below h.below.size (fun k hk ho => by have := h.fresh k ho; omega)), r2.trans h.self', r3.trans h.t', r4.trans h.k, ?_, ?_, ?_, ?_⟩, ⟨hG.n, hG.N, hG.adv, ?_, ?_, hG.oldK, hG.unk, ?_, hG.has, ?_, rfl, r10⟩, hC⟩
  · intro k hk
    have hws := h.below.size
    rcases hk with hk | hk | ⟨hk1, hk2⟩ | ⟨i, hi, hk⟩
    · exact h.fresh k (.inl hk)
    · exact h.fresh k (.inr (.inl (hk.trans r1)))
    · have hk1' : 0 < L1.cap := hk1
      have hk2' : k = L1.bs := hk2
      rcases hG.row with ⟨a1, a2⟩ | a1 | a1
      · exact h.fresh k (.inr (.inr (.inl ⟨a2, hk2'.trans a1⟩)))
      · omega
      · omega
    · have hk' : k = L1.E i := hk
      rcases hG.from' i hi with ⟨j, hj, a1⟩ | ⟨_, a1⟩
      · exact h.fresh k (.inr (.inr (.inr ⟨j, hj, hk'.trans a1⟩)))
      · omega
  · show L1.drawn = L1.k
    rw [r7, r4]; exact h.drawn
  · show L.out - 1 = L.active - 1
    rw [h.out]
  · intro i hi
    show upd L1.S e 3 (L1.E i) ≠ 5 ∧ upd L1.S e 3 (L1.E i) ≠ 2
    by_cases hne : L1.E i = e
    · rw [hne, upd_same]; omega
    · rw [upd_ne _ _ hne]
      rcases hG.from' i hi with ⟨j, hj, a1⟩ | ⟨a1, _⟩
      · rw [a1, (hG.old j hj).2.1]; exact h.st j hj
      · rw [a1]; omega
  · show 0 ≤ L1.answered
    have := h.ans
    rw [r10]; show 0 ≤ L.answered + 1; omega
  · show (if L1.T e = L1.adv then L1.stalled + 1 else L1.stalled) = _
    rw [hT, hG.adv, hG.stalled]
  · intro y hy
    obtain ⟨b, h1, h2, h3, h4⟩ := hG.new y hy
    obtain ⟨i, hi, hEi, _⟩ := hR.back y b h1
    refine ⟨b, i, h1, hi, hEi.symm, ?_, h3⟩
    show upd L1.S e 3 b = 0
    rw [upd_ne _ _ (by omega)]; exact h2
  · intro i hi hne
    obtain ⟨a1, a2, a3, a4⟩ := hG.old i hi
    refine ⟨?_, a1⟩
    show upd L1.S e 3 (L.E i) = L.S (L.E i)
    rw [upd_ne _ _ hne]; exact a2
  · show upd L1.S e 3 e = 3
    exact upd_same _ _ _

/-! ### A row of ids that grows -/
theorem push_id (w w1 : World) (nb cap : Nat) (l : List Int) (ad : Option Addr) (x : Int) (hR : RowW w 20 nb l.length cap (idsOf l)) (had : ad = if cap = 0 then none else some ⟨nb, 0, none⟩) (hb : Below w.heap.size w w1) (hn : l.length < 1000) :
    ∃ w' nb' cap', (Builtin.append_ #[86, 86] 86 #[.slice ad l.length cap, .slice (some ⟨w1.heap.size, 0, none⟩) 1 1]).run Yba.prog (w1.alloc (.cells (aL (idF x)).toArray 62)) = .ok (.slice (some ⟨nb', 0, none⟩) (l.length + 1) cap') w' ∧
      RowW w' 20 nb' (l ++ [x]).length cap' (idsOf (l ++ [x])) ∧ 0 < cap' ∧ (nb' = nb ∧ 0 < cap ∨ w.heap.size ≤ nb') ∧ Chg (fun k => k = nb ∧ 0 < cap) w w' := by
  have hC1 : Chg (fun k => k = nb ∧ 0 < cap) w (w1.alloc (.cells (aL (idF x)).toArray 62)) := (Chg.ofNew hb).alloc _
  have hra : RowW (w1.alloc (.cells (aL (idF x)).toArray 62)) 20 nb l.length cap (idsOf l) := hR.keep (fun h => by
    have h1 := hR.lt (by omega) h
    have h2 := hb.size
    exact (((Below.refl w1.heap.size w1).alloc (Nat.le_refl _) _).block _ (by omega)).trans (hb.block _ h1))
  obtain ⟨w', b', cap', hrun, hrow, hcase, hlt, hchg⟩ := append_rowW (w1.alloc (.cells (aL (idF x)).toArray 62)) 86 62 86 (aV zeroF) 20 20 t86 i62w c62 (by omega) nb l.length cap w1.heap.size 1 (idsOf l) (aL (idF x)) hra (length_aL _) (one_aL _) (fun j v hj => by rw [World.cell?_alloc_at _ _ _ _ rfl]; simpa using hj) (by omega) (by omega)
  have hsl : slV nb l.length cap = .slice ad l.length cap := by unfold slV; rw [← had]
  rw [hsl] at hrun
  have hlen : (l ++ [x]).length = l.length + 1 := by simp
  refine ⟨w', b', cap', hrun, ?_, by have := hrow.le; omega, ?_, hC1.trans hchg (fun _ _ h => h)⟩
  · rw [hlen]
    refine hrow.congr (fun j hj => ?_)
    show (if j = l.length then aL (idF x) else aL (idF (l.getD j 0))) = aL (idF ((l ++ [x]).getD j 0))
    by_cases e : j = l.length
    · rw [if_pos e, e]; simp
    · rw [if_neg e]
      have hj' : j < l.length := by omega
      simp [List.getD_eq_getElem?_getD, List.getElem?_append_left hj']
  · rcases hcase with h | h
    · exact .inl h
    · right
      have h3 : (w1.alloc (.cells (aL (idF x)).toArray 62)).heap.size = w1.heap.size + 1 := by simp
      have := hb.size
      omega
end Go.Proofs.Ybulkchfs
