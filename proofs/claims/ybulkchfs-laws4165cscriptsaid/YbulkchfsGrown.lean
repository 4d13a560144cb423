/- WHAT A ROW OF adds LEAVES OF A LOOKUP: the plain step, and the relation 'Grown'. -/
import Derived.Test.YbulkchfsAdd
namespace Go.Proofs.Ybulkchfs
open Go.RowKit Go.Lib
set_option linter.unusedVariables false
set_option linter.unusedSimpArgs false

/-- The plain state of a row of adds: the ids taken up, the nearest distance, the advances, whether one was made. -/
structure Pn where
  new : List Int
  N : Nat → Int
  adv : Int
  reset : Bool

/-- Is x passed by? -/
def skips (L : St) (p : Pn) (x : Int) : Bool := x == L.self || (findK L.K x).isSome || p.new.contains x
def stepP (L : St) (p : Pn) (x : Int) : Pn :=
  if skips L p x then p
  else if cmpF (idF (dst x L.t)) p.N < 0 then ⟨p.new ++ [x], idF (dst x L.t), p.adv + 1, true⟩ else ⟨p.new ++ [x], p.N, p.adv, p.reset⟩
def startP (L : St) : Pn := ⟨[], L.N, L.adv, false⟩

structure Grown (B : Nat) (L L' : St) (d : Int) (p : Pn) : Prop where
  n : L'.n = L.n + p.new.length
  N : L'.N = p.N
  adv : L'.adv = p.adv
  stalled : L'.stalled = if p.reset then 0 else L.stalled
  old : ∀ i, i < L.n → L'.X (L.E i) = L.X (L.E i) ∧ L'.S (L.E i) = L.S (L.E i) ∧ L'.D (L.E i) = L.D (L.E i) ∧ L'.T (L.E i) = L.T (L.E i)
  has : ∀ i, i < L.n → ∃ j, j < L'.n ∧ L'.E j = L.E i
  new : ∀ x, x ∈ p.new → ∃ b, findK L'.K x = some b ∧ L'.S b = 0 ∧ L'.D b = d ∧ B ≤ b
  oldK : ∀ x b, findK L.K x = some b → findK L'.K x = some b
  unk : ∀ x, findK L.K x = none → x ∉ p.new → findK L'.K x = none
  from' : ∀ i, i < L'.n → (∃ j, j < L.n ∧ L'.E i = L.E j) ∨ L'.S (L'.E i) = 0 ∧ B ≤ L'.E i
  rest : L'.br = L.br ∧ L'.self = L.self ∧ L'.t = L.t ∧ L'.k = L.k ∧ L'.alpha = L.alpha ∧ L'.own = L.own ∧ L'.drawn = L.drawn ∧ L'.active = L.active ∧ L'.out = L.out ∧ L'.answered = L.answered ∧ L'.over = L.over
  row : L'.bs = L.bs ∧ 0 < L.cap ∨ B ≤ L'.bs ∨ L'.cap = 0

theorem Grown.start (B : Nat) (L : St) (d : Int) : Grown B L L d (startP L) :=
  ⟨rfl, rfl, rfl, rfl, fun _ _ => ⟨rfl, rfl, rfl, rfl⟩, fun i hi => ⟨i, hi, rfl⟩, fun x hx => absurd hx (by simp [startP]), fun _ _ h => h, fun _ h _ => h, fun i hi => .inl ⟨i, hi, rfl⟩, ⟨rfl, rfl, rfl, rfl, rfl, rfl, rfl, rfl, rfl, rfl, rfl⟩, by
    rcases Nat.eq_zero_or_pos L.cap with h | h
    · exact .inr (.inr h)
    · exact .inl ⟨rfl, h⟩⟩

/-- One more add. B: a bound below which nothing new was laid; w: the world of this add. -/
theorem Grown.step {B bl : Nat} {w w' : World} {L L' : St} {d x : Int} {p : Pn} {r : Ending} (g : Grown B L L' d p) (hB : B ≤ w.heap.size) (hrep : Rep w bl L') (hlt : ∀ i, i < L.n → L.E i < B) (h : AddPost w bl L' x d r w') :
    ∃ L'', Rep w' bl L'' ∧ Grown B L L'' d (stepP L p x) ∧ Chg (fun k => k = bl ∨ k = L'.br ∨ (0 < L'.cap ∧ k = L'.bs)) w w' := by
  obtain ⟨_, h⟩ := h
  obtain ⟨r1, r2, r3, r4, r5, r6, r7, r8, r9, r10, r11⟩ := g.rest
  rcases h with ⟨h1, h2, h3⟩ | ⟨h1, h2, e, q, bs, cap, he, h3, h4, h5, h6⟩
  · refine ⟨L', h2, ?_, Chg.ofNew h3⟩
    have hs : skips L p x = true := by
      unfold skips
      rcases h1 with h1 | h1
      · simp [h1, r2]
      · by_cases hk : (findK L.K x).isSome
        · simp [hk]
        · have hk' : findK L.K x = none := by simpa using hk
          by_cases hx : x ∈ p.new
          · simp [hx]
          · have := g.unk x hk' hx
            rw [this] at h1; cases h1
    unfold stepP
    rw [if_pos hs]
    exact g
  · have hk : findK L.K x = none := by
      cases hf : findK L.K x with
      | none => rfl
      | some b => have := g.oldK x b hf; rw [h2] at this; cases this
    have hx : x ∉ p.new := fun hx => by
      obtain ⟨b, hb, _⟩ := g.new x hx
      rw [h2] at hb; cases hb
    have hs : skips L p x = false := by
      unfold skips
      simp [hk, hx]
      exact fun h => h1 (by rw [r2]; exact h)
    have hne : ∀ i, i < L.n → L.E i ≠ e := fun i hi => by have := hlt i hi; omega
    have hne' : ∀ i, i < L'.n → L'.E i ≠ e := fun i hi => by have := (hrep.ent i hi).lt; omega
    have hfb : ∀ y b, findK L'.K y = some b → b ≠ e := fun y b hb => by
      obtain ⟨i, hi, h7, _⟩ := hrep.back y b hb
      rw [← h7]; exact hne' i hi
    have hnew : (stepP L p x).new = p.new ++ [x] := by unfold stepP; rw [hs]; simp only [Bool.false_eq_true, if_false]; split <;> rfl
    refine ⟨L'.add x d e q bs cap, h3, ?_, h6⟩
    have hcm : cmpF (idF (dst x L'.t)) L'.N = cmpF (idF (dst x L.t)) p.N := by rw [r3, g.N]
    refine ⟨?_, ?_, ?_, ?_, ?_, ?_, ?_, ?_, ?_, ?_, ⟨r1, r2, r3, r4, r5, r6, r7, r8, r9, r10, r11⟩, ?_⟩
    · rw [hnew, List.length_append]; show L'.n + 1 = _; rw [g.n]; simp; omega
    · show (if cmpF (idF (dst x L'.t)) L'.N < 0 then idF (dst x L'.t) else L'.N) = _
      rw [hcm]; unfold stepP; rw [hs]; simp only [Bool.false_eq_true, if_false]
      split
      · rw [r3]
      · exact g.N
    · show (if cmpF (idF (dst x L'.t)) L'.N < 0 then L'.adv + 1 else L'.adv) = _
      rw [hcm]; unfold stepP; rw [hs]; simp only [Bool.false_eq_true, if_false]
      split
      · rw [g.adv]
      · exact g.adv
    · show (if cmpF (idF (dst x L'.t)) L'.N < 0 then 0 else L'.stalled) = _
      rw [hcm]; unfold stepP; rw [hs]; simp only [Bool.false_eq_true, if_false]
      split
      · simp
      · exact g.stalled
    · intro i hi
      have := g.old i hi
      refine ⟨?_, ?_, ?_, ?_⟩
      · show upd _ _ _ _ = _; rw [upd_ne _ _ (hne i hi)]; exact this.1
      · show upd _ _ _ _ = _; rw [upd_ne _ _ (hne i hi)]; exact this.2.1
      · show upd _ _ _ _ = _; rw [upd_ne _ _ (hne i hi)]; exact this.2.2.1
      · show upd _ _ _ _ = _; rw [upd_ne _ _ (hne i hi)]; exact this.2.2.2
    · intro i hi
      obtain ⟨j, hj, h7⟩ := g.has i hi
      obtain ⟨j', hj', h8⟩ := insE_has (E := L'.E) (e := e) h5 hj
      exact ⟨j', hj', h8.trans h7⟩
    · intro y hy
      rw [hnew] at hy
      rcases List.mem_append.1 hy with hy | hy
      · obtain ⟨b, hb, h7, h8, h9⟩ := g.new y hy
        refine ⟨b, ?_, ?_, ?_, h9⟩
        · show findK (L'.K ++ [(x, e)]) y = some b
          rw [findK_append, hb]; rfl
        · show upd _ _ _ _ = _; rw [upd_ne _ _ (hfb y b hb)]; exact h7
        · show upd _ _ _ _ = _; rw [upd_ne _ _ (hfb y b hb)]; exact h8
      · obtain rfl : y = x := by simpa using hy
        refine ⟨e, ?_, upd_same _ _ _, upd_same _ _ _, by omega⟩
        show findK (L'.K ++ [(y, e)]) y = some e
        rw [findK_append, h2]; simp
    · intro y b hy
      show findK (L'.K ++ [(x, e)]) y = some b
      rw [findK_append, g.oldK y b hy]; rfl
    · intro y hy hny
      rw [hnew] at hny
      have h7 : y ∉ p.new := fun h => hny (List.mem_append.2 (.inl h))
      have h8 : y ≠ x := fun h => hny (List.mem_append.2 (.inr (by simp [h])))
      show findK (L'.K ++ [(x, e)]) y = none
      rw [findK_append, g.unk y hy h7, if_neg h8]; rfl
    · intro i hi
      show (∃ j, j < L.n ∧ insE L'.E q e i = L.E j) ∨ upd L'.S e 0 (insE L'.E q e i) = 0 ∧ B ≤ insE L'.E q e i
      rcases insE_old h5 (E := L'.E) (e := e) (i := i) hi with h7 | ⟨j, hj, h7⟩
      · right; rw [h7, upd_same]; exact ⟨rfl, by omega⟩
      · rw [h7]
        rcases g.from' j hj with ⟨j', hj', h8⟩ | ⟨h8, h9⟩
        · exact .inl ⟨j', hj', h8⟩
        · right; rw [upd_ne _ _ (hne' j hj)]; exact ⟨h8, h9⟩
    · show bs = L.bs ∧ 0 < L.cap ∨ B ≤ bs ∨ cap = 0
      rcases h4 with ⟨h7, h8⟩ | h7
      · rcases g.row with h9 | h9 | h9
        · left; rw [h7]; exact h9
        · right; left; rw [h7]; exact h9
        · omega
      · right; left; omega
end Go.Proofs.Ybulkchfs
