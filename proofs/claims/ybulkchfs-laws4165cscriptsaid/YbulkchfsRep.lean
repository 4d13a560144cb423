/- THE LOOKUP IN MEMORY: an abstract state 'St' and what it means that a world bears it at block bl ('Rep'). -/
import Derived.Test.YbulkchfsRow
namespace Go.Proofs.Ybulkchfs
open Go.RowKit Go.Lib
set_option linter.unusedVariables false
set_option linter.unusedSimpArgs false

/-- A lookup: its shortlist (n entries, the i-th in block E i), each entry's id, state, depth, sentAt by its block, the map K, the rest of the fields. -/
structure St where
  n : Nat
  bs : Nat
  cap : Nat
  br : Nat
  E : Nat → Nat
  X : Nat → Int
  S : Nat → Int
  D : Nat → Int
  T : Nat → Int
  K : List (Int × Nat)
  self : Int
  t : Int
  k : Int
  alpha : Int
  own : Value
  drawn : Int
  N : Nat → Int
  adv : Int
  stalled : Int
  active : Int
  out : Int
  answered : Int
  over : Bool

def upd (F : Nat → Int) (e : Nat) (v : Int) : Nat → Int := fun b => if b = e then v else F b
theorem upd_same (F : Nat → Int) (e : Nat) (v : Int) : upd F e v e = v := by simp [upd]
theorem upd_ne (F : Nat → Int) {e b : Nat} (v : Int) (h : b ≠ e) : upd F e v b = F b := by simp [upd, h]

/-- An entry in memory. -/
structure EntAt (w : World) (b : Nat) (x s d u : Int) : Prop where
  contact : arr? w 24 b 0 = some (cL (idF x))
  state : w.cell? ⟨b, 24, none⟩ = some (.int .i64 s)
  depth : w.cell? ⟨b, 25, none⟩ = some (.int .i64 d)
  sent : w.cell? ⟨b, 26, none⟩ = some (.int .i64 u)
  thaw : ∀ o, w.frozen? ⟨b, o, none⟩ = false

theorem EntAt.keep {w w' : World} {b : Nat} {x s d u : Int} (h : EntAt w b x s d u) (e : w'.heap[b]? = w.heap[b]?) : EntAt w' b x s d u :=
  ⟨(arr_of_heap e _ _).trans h.contact, (cell_of_heap e _).trans h.state, (cell_of_heap e _).trans h.depth, (cell_of_heap e _).trans h.sent, fun o => (frozen_of_heap e o).trans (h.thaw o)⟩
theorem EntAt.lt {w : World} {b : Nat} {x s d u : Int} (h : EntAt w b x s d u) : b < w.heap.size := block_lt_of_cell h.state
theorem EntAt.id {w : World} {b : Nat} {x s d u : Int} (h : EntAt w b x s d u) : arr? w 20 b 0 = some (aL (idF x)) := by
  obtain ⟨hl, hr⟩ := of_arr? h.contact
  refine arr?_of (length_aL _) (fun j v hj => hr j v ?_)
  unfold cL
  have : j < (aL (idF x)).length := (List.getElem?_eq_some_iff.1 hj).1
  rw [List.getElem?_append_left this]
  exact hj

/-- The fields of the Lookup. -/
structure Fields (w : World) (bl : Nat) (L : St) : Prop where
  self : arr? w 20 bl 0 = some (aL (idF L.self))
  target : arr? w 20 bl 20 = some (aL (idF L.t))
  k : w.cell? ⟨bl, 40, none⟩ = some (.int .i64 L.k)
  alpha : w.cell? ⟨bl, 41, none⟩ = some (.int .i64 L.alpha)
  atOnce : w.cell? ⟨bl, 42, none⟩ = some (.int .i64 0)
  own : w.cell? ⟨bl, 43, none⟩ = some L.own
  drawn : w.cell? ⟨bl, 44, none⟩ = some (.int .i64 L.drawn)
  failed : w.cell? ⟨bl, 45, none⟩ = some (.int .i64 0)
  shortlist : w.cell? ⟨bl, 46, none⟩ = some (slV L.bs L.n L.cap)
  known : w.cell? ⟨bl, 47, none⟩ = some (.map (some L.br))
  near : arr? w 20 bl 48 = some (aL L.N)
  adv : w.cell? ⟨bl, 68, none⟩ = some (.int .i64 L.adv)
  stalled : w.cell? ⟨bl, 69, none⟩ = some (.int .i64 L.stalled)
  active : w.cell? ⟨bl, 70, none⟩ = some (.int .i64 L.active)
  out : w.cell? ⟨bl, 71, none⟩ = some (.int .i64 L.out)
  answered : w.cell? ⟨bl, 72, none⟩ = some (.int .i64 L.answered)
  hit : w.cell? ⟨bl, 73, none⟩ = some (.bool false)
  over : w.cell? ⟨bl, 74, none⟩ = some (.bool L.over)
  after : w.cell? ⟨bl, 75, none⟩ = some .nilFunc
  thaw : ∀ o, w.frozen? ⟨bl, o, none⟩ = false

structure Rep (w : World) (bl : Nat) (L : St) : Prop where
  fields : Fields w bl L
  map : MapIs w L.br L.K
  row : Row w L.bs L.n L.cap L.E
  ent : ∀ i, i < L.n → EntAt w (L.E i) (L.X (L.E i)) (L.S (L.E i)) (L.D (L.E i)) (L.T (L.E i))
  byte : ∀ i, i < L.n → 0 ≤ L.X (L.E i) ∧ L.X (L.E i) ≤ 255
  tbyte : 0 ≤ L.t ∧ L.t ≤ 255
  rise : ∀ i j, i < j → j < L.n → dst (L.X (L.E i)) L.t < dst (L.X (L.E j)) L.t
  led : ∀ i, i < L.n → findK L.K (L.X (L.E i)) = some (L.E i)
  back : ∀ b x, findK L.K b = some x → ∃ i, i < L.n ∧ L.E i = x ∧ L.X x = b
  len : L.K.length = L.n
  apart : ∀ i, i < L.n → L.E i ≠ bl ∧ L.E i ≠ L.br ∧ (0 < L.cap → L.E i ≠ L.bs)
  apart2 : bl ≠ L.br ∧ (0 < L.cap → L.bs ≠ bl ∧ L.bs ≠ L.br)
  nbyte : Byt L.N
  advs : 0 ≤ L.adv ∧ L.adv ≤ L.n
  stalls : 0 ≤ L.stalled ∧ L.stalled ≤ L.answered
  depths : ∀ i, i < L.n → 0 ≤ L.D (L.E i) ∧ L.D (L.E i) ≤ L.answered

theorem Fields.keep {w w' : World} {bl : Nat} {L : St} (h : Fields w bl L) (e : w'.heap[bl]? = w.heap[bl]?) : Fields w' bl L :=
  ⟨(arr_of_heap e _ _).trans h.self, (arr_of_heap e _ _).trans h.target, (cell_of_heap e _).trans h.k, (cell_of_heap e _).trans h.alpha, (cell_of_heap e _).trans h.atOnce, (cell_of_heap e _).trans h.own, (cell_of_heap e _).trans h.drawn, (cell_of_heap e _).trans h.failed, (cell_of_heap e _).trans h.shortlist, (cell_of_heap e _).trans h.known, (arr_of_heap e _ _).trans h.near, (cell_of_heap e _).trans h.adv, (cell_of_heap e _).trans h.stalled, (cell_of_heap e _).trans h.active, (cell_of_heap e _).trans h.out, (cell_of_heap e _).trans h.answered, (cell_of_heap e _).trans h.hit, (cell_of_heap e _).trans h.over, (cell_of_heap e _).trans h.after, fun o => (frozen_of_heap e o).trans (h.thaw o)⟩
theorem Fields.lt {w : World} {bl : Nat} {L : St} (h : Fields w bl L) : bl < w.heap.size := block_lt_of_cell h.k

/-- The lookup's own blocks. -/
def Own (bl : Nat) (L : St) (k : Nat) : Prop := k = bl ∨ k = L.br ∨ (0 < L.cap ∧ k = L.bs) ∨ ∃ i, i < L.n ∧ k = L.E i

theorem Rep.own_lt {w : World} {bl : Nat} {L : St} (h : Rep w bl L) {k : Nat} (hk : Own bl L k) : k < w.heap.size := by
  rcases hk with rfl | rfl | ⟨h1, rfl⟩ | ⟨i, hi, rfl⟩
  · exact h.fields.lt
  · exact h.map.lt
  · exact h.row.lt h1
  · exact (h.ent i hi).lt

theorem Rep.keep {w w' : World} {bl : Nat} {L : St} (h : Rep w bl L) (e : ∀ k, Own bl L k → w'.heap[k]? = w.heap[k]?) : Rep w' bl L :=
  { h with
    fields := h.fields.keep (e _ (.inl rfl))
    map := h.map.of_block (e _ (.inr (.inl rfl)))
    row := h.row.keep (fun hc => e _ (.inr (.inr (.inl ⟨hc, rfl⟩))))
    ent := fun i hi => (h.ent i hi).keep (e _ (.inr (.inr (.inr ⟨i, hi, rfl⟩)))) }
theorem Rep.chg {w w' : World} {bl : Nat} {L : St} {S : Nat → Prop} (h : Rep w bl L) (c : Chg S w w') (hS : ∀ k, Own bl L k → ¬ S k) : Rep w' bl L :=
  h.keep fun k hk => c.block k (h.own_lt hk) (hS k hk)
theorem Rep.below {w w' : World} {bl : Nat} {L : St} (h : Rep w bl L) (c : Below w.heap.size w w') : Rep w' bl L := h.keep fun k hk => c.block k (h.own_lt hk)

theorem Rep.inj {w : World} {bl : Nat} {L : St} (h : Rep w bl L) {i j : Nat} (hi : i < L.n) (hj : j < L.n) (e : L.E i = L.E j) : i = j := by
  rcases Nat.lt_trichotomy i j with hlt | he | hgt
  · have := h.rise i j hlt hj; rw [e] at this; omega
  · exact he
  · have := h.rise j i hgt hi; rw [e] at this; omega

theorem Rep.dst_ge {w : World} {bl : Nat} {L : St} (h : Rep w bl L) : ∀ i, i < L.n → (i : Int) ≤ dst (L.X (L.E i)) L.t
  | 0, hi => (dst_byte (h.byte 0 hi) h.tbyte).1
  | i + 1, hi => by
    have := h.dst_ge i (by omega)
    have := h.rise i (i + 1) (by omega) hi
    omega
theorem Rep.small {w : World} {bl : Nat} {L : St} (h : Rep w bl L) : L.n ≤ 256 := by
  rcases Nat.eq_zero_or_pos L.n with h0 | h0
  · omega
  · have h1 := h.dst_ge (L.n - 1) (by omega)
    have h2 := (dst_byte (h.byte (L.n - 1) (by omega)) h.tbyte).2
    omega

theorem Rep.short {w : World} {bl : Nat} {L : St} (h : Rep w bl L) : Short w L.bs L.n L.cap L.E (fun i => L.X (L.E i)) L.t :=
  ⟨h.row.ptr, fun i hi => (h.ent i hi).id, h.byte, h.rise, fun i hi => (h.ent i hi).lt⟩

/-- The state behind add: e is the new entry's block, p its place, (bs, cap) the row behind. -/
def St.add (L : St) (x d : Int) (e p bs cap : Nat) : St :=
  { L with
    n := L.n + 1, bs := bs, cap := cap, E := insE L.E p e, X := upd L.X e x, S := upd L.S e 0, D := upd L.D e d, T := upd L.T e 0, K := L.K ++ [(x, e)]
    N := if cmpF (idF (dst x L.t)) L.N < 0 then idF (dst x L.t) else L.N
    adv := if cmpF (idF (dst x L.t)) L.N < 0 then L.adv + 1 else L.adv
    stalled := if cmpF (idF (dst x L.t)) L.N < 0 then 0 else L.stalled }

theorem insE_old {E : Nat → Nat} {p e n : Nat} (hp : p ≤ n) {i : Nat} (hi : i < n + 1) : insE E p e i = e ∨ ∃ j, j < n ∧ insE E p e i = E j := by
  unfold insE
  by_cases h1 : i < p
  · right; exact ⟨i, by omega, by rw [if_pos h1]⟩
  · by_cases h2 : i = p
    · left; rw [if_neg h1, if_pos h2]
    · right; exact ⟨i - 1, by omega, by rw [if_neg h1, if_neg h2]⟩
theorem insE_has {E : Nat → Nat} {p e n : Nat} (hp : p ≤ n) {j : Nat} (hj : j < n) : ∃ i, i < n + 1 ∧ insE E p e i = E j := by
  by_cases h : j < p
  · exact ⟨j, by omega, by unfold insE; rw [if_pos h]⟩
  · exact ⟨j + 1, by omega, by unfold insE; rw [if_neg (by omega), if_neg (by omega)]; rfl⟩

theorem findK_none {K : List (Int × Nat)} {x : Int} (h : findK K x = none) : ∀ p ∈ K, p.1 ≠ x := by
  induction K with
  | nil => intro p hp; cases hp
  | cons q r ih =>
    unfold findK at h
    split at h
    · cases h
    · rename_i hne
      intro p hp
      rcases List.mem_cons.1 hp with rfl | hp
      · exact fun e => hne e.symm
      · exact ih h p hp

/-- REP BEHIND ADD, from the parts. -/
theorem Rep.added {w w' : World} {bl : Nat} {L : St} (h : Rep w bl L) {x d : Int} {e p bs cap : Nat} (hx : 0 ≤ x ∧ x ≤ 255) (hd : 0 ≤ d ∧ d ≤ L.answered) (hnew : findK L.K x = none) (he : w.heap.size ≤ e) (hp : p ≤ L.n)
    (hlo : ∀ j, j < p → dst (L.X (L.E j)) L.t < dst x L.t) (hhi : ∀ j, p ≤ j → j < L.n → dst x L.t ≤ dst (L.X (L.E j)) L.t)
    (hf : Fields w' bl (L.add x d e p bs cap)) (hm : MapIs w' L.br (L.K ++ [(x, e)])) (hr : Row w' bs (L.n + 1) cap (insE L.E p e)) (hbs : bs = L.bs ∧ 0 < L.cap ∨ w.heap.size ≤ bs) (hbe : bs ≠ e)
    (hent : EntAt w' e x 0 d 0) (hold : ∀ i, i < L.n → w'.heap[L.E i]? = w.heap[L.E i]?) : Rep w' bl (L.add x d e p bs cap) := by
  have hlt : ∀ i, i < L.n → L.E i < w.heap.size := fun i hi => (h.ent i hi).lt
  have hne : ∀ i, i < L.n → L.E i ≠ e := fun i hi => by have := hlt i hi; omega
  have hbl := h.fields.lt
  have hbr := h.map.lt
  have hX : ∀ i, i < L.n → (L.add x d e p bs cap).X (L.E i) = L.X (L.E i) := fun i hi => upd_ne _ _ (hne i hi)
  have hXe : (L.add x d e p bs cap).X e = x := upd_same _ _ _
  have hstrict : ∀ j, j < L.n → p ≤ j → dst x L.t < dst (L.X (L.E j)) L.t := fun j hj hpj => by
    have h1 := hhi j hpj hj
    rcases Int.lt_or_eq_of_le h1 with h2 | h2
    · exact h2
    · have := dst_inj hx (h.byte j hj) h.tbyte h2
      have h3 := h.led j hj
      rw [← this, hnew] at h3; cases h3
  have hval : ∀ i, i < L.n + 1 → dst ((L.add x d e p bs cap).X (insE L.E p e i)) L.t = if i < p then dst (L.X (L.E i)) L.t else if i = p then dst x L.t else dst (L.X (L.E (i - 1))) L.t := fun i hi => by
    unfold insE
    by_cases h1 : i < p
    · simp only [if_pos h1]; rw [hX i (by omega)]
    · by_cases h2 : i = p
      · simp only [if_neg h1, if_pos h2]; rw [hXe]
      · simp only [if_neg h1, if_neg h2]; rw [hX (i - 1) (by omega)]
  refine { fields := hf, map := hm, row := hr, ent := ?_, byte := ?_, tbyte := h.tbyte, rise := ?_, led := ?_, back := ?_, len := ?_, apart := ?_, apart2 := ?_, nbyte := ?_, advs := ?_, stalls := ?_, depths := ?_ }
  · intro i hi
    rcases insE_old hp (E := L.E) (e := e) (i := i) hi with h1 | ⟨j, hj, h1⟩
    · show EntAt w' (insE L.E p e i) (upd L.X e x (insE L.E p e i)) (upd L.S e 0 (insE L.E p e i)) (upd L.D e d (insE L.E p e i)) (upd L.T e 0 (insE L.E p e i))
      rw [h1, upd_same, upd_same, upd_same, upd_same]; exact hent
    · show EntAt w' (insE L.E p e i) (upd L.X e x (insE L.E p e i)) (upd L.S e 0 (insE L.E p e i)) (upd L.D e d (insE L.E p e i)) (upd L.T e 0 (insE L.E p e i))
      rw [h1, upd_ne _ _ (hne j hj), upd_ne _ _ (hne j hj), upd_ne _ _ (hne j hj), upd_ne _ _ (hne j hj)]
      exact (h.ent j hj).keep (hold j hj)
  · intro i hi
    rcases insE_old hp (E := L.E) (e := e) (i := i) hi with h1 | ⟨j, hj, h1⟩
    · show 0 ≤ upd _ _ _ (insE L.E p e i) ∧ upd _ _ _ (insE L.E p e i) ≤ 255
      rw [h1, upd_same]; exact hx
    · show 0 ≤ upd _ _ _ (insE L.E p e i) ∧ upd _ _ _ (insE L.E p e i) ≤ 255
      rw [h1, upd_ne _ _ (hne j hj)]; exact h.byte j hj
  · intro i j hij hj
    show dst ((L.add x d e p bs cap).X (insE L.E p e i)) L.t < dst ((L.add x d e p bs cap).X (insE L.E p e j)) L.t
    have hj' : j < L.n + 1 := hj
    rw [hval i (by omega), hval j hj']
    by_cases h1 : i < p
    · rw [if_pos h1]
      by_cases h2 : j < p
      · rw [if_pos h2]; exact h.rise i j hij (by omega)
      · rw [if_neg h2]
        by_cases h3 : j = p
        · rw [if_pos h3]; exact hlo i h1
        · rw [if_neg h3]
          have := hlo i h1
          have := hstrict (j - 1) (by omega) (by omega)
          omega
    · rw [if_neg h1, if_neg (by omega : ¬ j < p), if_neg (by omega : ¬ j = p)]
      by_cases h2 : i = p
      · rw [if_pos h2]; exact hstrict (j - 1) (by omega) (by omega)
      · rw [if_neg h2]; exact h.rise (i - 1) (j - 1) (by omega) (by omega)
  · intro i hi
    show findK (L.K ++ [(x, e)]) (upd _ _ _ (insE L.E p e i)) = some (insE L.E p e i)
    rw [findK_append]
    rcases insE_old hp (E := L.E) (e := e) (i := i) hi with h1 | ⟨j, hj, h1⟩
    · rw [h1, upd_same, hnew]; simp
    · rw [h1, upd_ne _ _ (hne j hj), h.led j hj]; rfl
  · intro b y hb
    have hb' : findK (L.K ++ [(x, e)]) b = some y := hb
    rw [findK_append] at hb'
    cases hf' : findK L.K b with
    | some z =>
      rw [hf'] at hb'
      obtain rfl : z = y := by simpa using hb'
      obtain ⟨j, hj, h1, h2⟩ := h.back b z hf'
      obtain ⟨i, hi, h3⟩ := insE_has (E := L.E) (e := e) hp hj
      exact ⟨i, hi, h3.trans h1, by show upd _ _ _ z = b; rw [← h1, upd_ne _ _ (hne j hj), h1]; exact h2⟩
    | none =>
      rw [hf'] at hb'
      by_cases hbx : b = x
      · rw [if_pos hbx] at hb'
        obtain rfl : e = y := by simpa using hb'
        exact ⟨p, by show p < L.n + 1; omega, by show insE L.E p e p = e; simp [insE], by show upd _ _ _ e = b; rw [upd_same, hbx]⟩
      · rw [if_neg hbx] at hb'; cases hb'
  · show (L.K ++ [(x, e)]).length = L.n + 1
    rw [List.length_append, h.len]; rfl
  · intro i hi
    show insE L.E p e i ≠ bl ∧ insE L.E p e i ≠ L.br ∧ (0 < cap → insE L.E p e i ≠ bs)
    rcases insE_old hp (E := L.E) (e := e) (i := i) hi with h1 | ⟨j, hj, h1⟩
    · rw [h1]; exact ⟨by omega, by omega, fun _ => Ne.symm hbe⟩
    · rw [h1]
      obtain ⟨a1, a2, a3⟩ := h.apart j hj
      refine ⟨a1, a2, fun _ => ?_⟩
      rcases hbs with ⟨e1, e2⟩ | e1
      · rw [e1]; exact a3 e2
      · have := hlt j hj; omega
  · refine ⟨h.apart2.1, fun _ => ?_⟩
    show bs ≠ bl ∧ bs ≠ L.br
    rcases hbs with ⟨e1, e2⟩ | e1
    · rw [e1]; exact h.apart2.2 e2
    · omega
  · show Byt (if cmpF (idF (dst x L.t)) L.N < 0 then idF (dst x L.t) else L.N)
    split
    · exact byt_id (dst_byte hx h.tbyte)
    · exact h.nbyte
  · have := h.advs
    show 0 ≤ (if cmpF (idF (dst x L.t)) L.N < 0 then L.adv + 1 else L.adv) ∧ (if cmpF (idF (dst x L.t)) L.N < 0 then L.adv + 1 else L.adv) ≤ ((L.n + 1 : Nat) : Int)
    split <;> omega
  · have := h.stalls
    show 0 ≤ (if cmpF (idF (dst x L.t)) L.N < 0 then 0 else L.stalled) ∧ (if cmpF (idF (dst x L.t)) L.N < 0 then 0 else L.stalled) ≤ L.answered
    split <;> omega
  · intro i hi
    rcases insE_old hp (E := L.E) (e := e) (i := i) hi with h1 | ⟨j, hj, h1⟩
    · show 0 ≤ upd _ _ _ (insE L.E p e i) ∧ upd _ _ _ (insE L.E p e i) ≤ L.answered
      rw [h1, upd_same]; exact hd
    · show 0 ≤ upd _ _ _ (insE L.E p e i) ∧ upd _ _ _ (insE L.E p e i) ≤ L.answered
      rw [h1, upd_ne _ _ (hne j hj)]; exact h.depths j hj
end Go.Proofs.Ybulkchfs
