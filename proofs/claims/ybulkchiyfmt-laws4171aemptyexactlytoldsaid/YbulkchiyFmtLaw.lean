/- THE WALK OF LawS4171AEmptyExactly (function 3), FOR EVERY F. -/
import Derived.Test.YbulkchiyFmtOther
namespace Go.Proofs.YbulkchiyFmt
open Go.RowKit Go.Extern.Stop Go.Stop Go.Extern
set_option linter.unusedVariables false
set_option linter.unusedSimpArgs false

abbrev zero29 : Value := .agg #[.string ⟨#[]⟩, .string ⟨#[]⟩, .string ⟨#[]⟩, .string ⟨#[]⟩, .int .i64 0, .pointer none, .bool false, .string ⟨#[]⟩, .string ⟨#[]⟩, .slice none 0 0, .string ⟨#[]⟩, .pointer none, .string ⟨#[]⟩, .bool false, .bool false]
theorem info29 : (Ybaf.prog.info? 29).map (fun i => (i.zero, i.size, i.bytes)) = some (some zero29, 15, 192) := by kernel_rfl

/-- The cells of a walked message. -/
abbrev msgX (s : ByteArray) : List Value :=
  [.string ⟨#[120]⟩, .string ⟨#[]⟩, .string ⟨#[]⟩, .string ⟨#[]⟩, .int .i64 0, .pointer none, .bool false, .string ⟨#[]⟩, .string s, .slice none 0 0, .string ⟨#[]⟩, .pointer none, .string ⟨#[]⟩, .bool false, .bool false]

theorem addr_at (b j : Nat) : (⟨b, 0, none⟩ : Addr).add j = ⟨b, j, none⟩ := by unfold Addr.add; split <;> simp_all

/-- The cells of a new block. -/
theorem many_new (w : World) (C : Array Value) (t : TypeId) : ∀ (j : Nat) (u : Value), C.toList[j]? = some u → (w.alloc (.cells C t)).cell? ((⟨w.heap.size, 0, none⟩ : Addr).add j) = some u := by
  intro j u hj
  rw [addr_at, World.cell?_alloc_at _ _ _ _ rfl]
  simpa using hj

theorem one_x (s : ByteArray) : ∀ u ∈ msgX s, u.oneCell' = true := by
  intro u hu
  simp only [msgX, List.mem_cons, List.not_mem_nil, or_false] at hu
  rcases hu with rfl | rfl | rfl | rfl | rfl | rfl | rfl | rfl | rfl | rfl | rfl | rfl | rfl | rfl | rfl
  all_goals rfl

/-- AFTER k ROUNDS: the slice of messages lies in the block w.heap.size. -/
structure Msgs (w : World) (n k : Nat) (S : Nat → ByteArray) (xs : List Value) (wr : World) : Prop where
  own : wr.ownsRow w.heap.size 29 15 (.slice (some ⟨w.heap.size, 0, none⟩) k n) k xs
  below : Below w.heap.size w wr
  size : w.heap.size < wr.heap.size
  first : 0 < k → xs[8]? = some (.string (S 0))

theorem msgs_step {w : World} {n k : Nat} {S : Nat → ByteArray} {xs : List Value} {wr w1 : World} {ob : Obj} (h : Msgs w n k S xs wr)
    (ho : w1.ownsRow w.heap.size 29 15 (.slice (some ⟨w.heap.size, 0, none⟩) (k + 1) n) (k + 1) (xs ++ msgX (S k))) (hg : (wr.alloc ob).grownBy w1 (some w.heap.size)) : Msgs w n (k + 1) S (xs ++ msgX (S k)) w1 := by
  have hs := h.size
  refine ⟨ho, (h.below.alloc (by omega) ob).grown hg (by simp; omega) (fun k hk => by injection hk with hk; omega), ?_, fun _ => ?_⟩
  · have := hg.size; simp at this; omega
  · by_cases e : 0 < k
    · have h8 := h.first e
      rw [List.getElem?_append_left (List.getElem?_eq_some_iff.1 h8).1]; exact h8
    · obtain rfl : k = 0 := by omega
      have : xs = [] := by have := h.own.1; simp at this; exact this
      subst this
      rfl

abbrev famCells (flag : Bool) : Array Value := #[.string ⟨#[]⟩, .slice none 0 0, .map none, .slice none 0 0, .string ⟨#[]⟩, .bool flag]
abbrev walkCells (bf g k : Nat) : Array Value := #[.pointer none, .pointer (some ⟨bf, 0, none⟩), .pointer none, .int .i64 0, .bool false, .string ⟨#[]⟩, .slice none 0 0, .int .i64 0, .map none, .map none, .slice (some ⟨g, 0, none⟩) k k, .pointer none, .int .i64 0, .pointer none, .bool false, .slice none 0 0]
abbrev msgCells (tid : ByteArray) (nof : Bool) : Array Value := #[.string ⟨#[121]⟩, .string ⟨#[]⟩, .string ⟨#[]⟩, .string ⟨#[]⟩, .int .i64 0, .pointer none, .bool false, .string ⟨#[]⟩, .string tid, .slice none 0 0, .string ⟨#[]⟩, .pointer none, .string ⟨#[]⟩, .bool nof, .bool false]
abbrev noId : ByteArray := ⟨#[110, 111, 32, 116, 114, 97, 110, 115, 97, 99, 116, 105, 111, 110, 32, 73, 68]⟩

/-- What the law may know of the answer. -/
structure Told (flag nof : Bool) (tid : ByteArray) (k : Nat) (s0 r : ByteArray) : Prop where
  off : flag = false ∨ nof = true → r = ⟨#[]⟩
  bare : flag = true → nof = false → k = 0 → tid.toList.isEmpty = true → r = noId
  lone : flag = true → nof = false → k = 0 → tid.toList.isEmpty = false → r = ⟨#[]⟩
  same : flag = true → nof = false → 0 < k → (tid.toList == s0.toList) = true → r = ⟨#[]⟩

/-- 'w.otherTransaction(m)' as the law calls it. -/
theorem other_law (F : Interp) (flag nof : Bool) (tid : ByteArray) (k : Nat) (S : Nat → ByteArray) (xs : List Value) (w wr : World) (hF : F.answers w.tape) (hm : Msgs w k k S xs wr) :
    Calls Ybaf.prog 6 #[.pointer (some ⟨wr.heap.size + 1, 0, none⟩), .agg (msgCells tid nof)] (((wr.alloc (.cells (famCells flag) 36)).alloc (.cells (walkCells wr.heap.size w.heap.size k) 46)).alloc (.cells (msgCells tid nof) 29))
      fun e w' => ∃ r, e = .returned (.string r) ∧ Below w.heap.size w w' ∧ w'.cell? ⟨wr.heap.size + 1, 10, none⟩ = some (.slice (some ⟨w.heap.size, 0, none⟩) k k) ∧ (0 < k → w'.cell? ⟨w.heap.size, 8, none⟩ = some (.string (S 0))) ∧ Told flag nof tid k (S 0) r := by
  have hsz := hm.size
  obtain ⟨W1, hW1⟩ : ∃ W1, W1 = wr.alloc (.cells (famCells flag) 36) := ⟨_, rfl⟩
  have hs1 : W1.heap.size = wr.heap.size + 1 := by rw [hW1]; simp
  have hb1 : Below w.heap.size w W1 := by rw [hW1]; exact hm.below.alloc (by omega) _
  have f1 : W1.cell? ⟨wr.heap.size, 5, none⟩ = some (.bool flag) := by rw [hW1, World.cell?_alloc_at _ _ _ _ rfl]; rfl
  have k1 : 0 < k → W1.cell? ⟨w.heap.size, 8, none⟩ = some (.string (S 0)) := fun h => by
    rw [hW1, World.cell?_alloc_past _ _ _ hsz, hm.own.cellAt 8 (by omega)]; exact hm.first h
  rw [← hW1]
  clear hW1
  obtain ⟨W2, hW2⟩ : ∃ W2, W2 = W1.alloc (.cells (walkCells wr.heap.size w.heap.size k) 46) := ⟨_, rfl⟩
  have hs2 : W2.heap.size = wr.heap.size + 2 := by rw [hW2]; simp [hs1]
  have hb2 : Below w.heap.size w W2 := by rw [hW2]; exact hb1.alloc (by omega) _
  have f2 : W2.cell? ⟨wr.heap.size, 5, none⟩ = some (.bool flag) := by rw [hW2, World.cell?_alloc_past _ _ _ (by omega)]; exact f1
  have k2 : 0 < k → W2.cell? ⟨w.heap.size, 8, none⟩ = some (.string (S 0)) := fun h => by rw [hW2, World.cell?_alloc_past _ _ _ (by omega)]; exact k1 h
  have p2 : W2.cell? ⟨wr.heap.size + 1, 1, none⟩ = some (.pointer (some ⟨wr.heap.size, 0, none⟩)) := by rw [hW2, World.cell?_alloc_at _ _ _ _ hs1.symm]; rfl
  have q2 : W2.cell? ⟨wr.heap.size + 1, 10, none⟩ = some (.slice (some ⟨w.heap.size, 0, none⟩) k k) := by rw [hW2, World.cell?_alloc_at _ _ _ _ hs1.symm]; rfl
  rw [← hW2]
  clear hW2
  obtain ⟨W3, hW3⟩ : ∃ W3, W3 = W2.alloc (.cells (msgCells tid nof) 29) := ⟨_, rfl⟩
  have hs3 : W3.heap.size = wr.heap.size + 3 := by rw [hW3]; simp [hs2]
  have hb3 : Below w.heap.size w W3 := by rw [hW3]; exact hb2.alloc (by omega) _
  have f3 : W3.cell? ⟨wr.heap.size, 5, none⟩ = some (.bool flag) := by rw [hW3, World.cell?_alloc_past _ _ _ (by omega)]; exact f2
  have k3 : 0 < k → W3.cell? ⟨w.heap.size, 8, none⟩ = some (.string (S 0)) := fun h => by rw [hW3, World.cell?_alloc_past _ _ _ (by omega)]; exact k2 h
  have p3 : W3.cell? ⟨wr.heap.size + 1, 1, none⟩ = some (.pointer (some ⟨wr.heap.size, 0, none⟩)) := by rw [hW3, World.cell?_alloc_past _ _ _ (by omega)]; exact p2
  have q3 : W3.cell? ⟨wr.heap.size + 1, 10, none⟩ = some (.slice (some ⟨w.heap.size, 0, none⟩) k k) := by rw [hW3, World.cell?_alloc_past _ _ _ (by omega)]; exact q2
  rw [← hW3]
  clear hW3
  have hF3 : F.answers W3.tape := by rw [hb3.tape]; exact hF
  have fin : ∀ (r : ByteArray) (w' : World), Told flag nof tid k (S 0) r → Below W3.heap.size W3 w' →
      ∃ r', Ending.returned (.string r) = .returned (.string r') ∧ Below w.heap.size w w' ∧ w'.cell? ⟨wr.heap.size + 1, 10, none⟩ = some (.slice (some ⟨w.heap.size, 0, none⟩) k k) ∧ (0 < k → w'.cell? ⟨w.heap.size, 8, none⟩ = some (.string (S 0))) ∧ Told flag nof tid k (S 0) r' := by
    intro r w' ht hb
    exact ⟨r, rfl, hb3.trans (hb.mono (by omega)), (hb.cell (p := ⟨wr.heap.size + 1, 10, none⟩) (by show wr.heap.size + 1 < _; omega)).trans q3, fun h => (hb.cell (p := ⟨w.heap.size, 8, none⟩) (by show w.heap.size < _; omega)).trans (k3 h), ht⟩
  cases flag
  · refine (other_A1 F _ _ _ k k tid W3 hF3 nof p3 f3 q3).mono ?_
    rintro e w' ⟨rfl, hb⟩
    exact fin _ w' ⟨fun _ => rfl, fun h => (by cases h), fun h => (by cases h), fun h => (by cases h)⟩ hb
  · cases nof
    · by_cases hk : k = 0
      · subst hk
        cases hE : tid.toList.isEmpty
        · refine (other_C F _ _ _ 0 0 tid W3 hF3 rfl rfl hE p3 f3 q3).mono ?_
          rintro e w' ⟨rfl, hb⟩
          exact fin _ w' ⟨fun _ => rfl, fun _ _ _ h => (by rw [hE] at h; cases h), fun _ _ _ _ => rfl, fun _ _ _ _ => rfl⟩ hb
        · refine (other_B F _ _ _ 0 0 tid W3 hF3 rfl rfl hE p3 f3 q3).mono ?_
          rintro e w' ⟨rfl, hb⟩
          exact fin _ w' ⟨fun h => (by rcases h with h | h <;> cases h), fun _ _ _ _ => rfl, fun _ _ _ h => (by rw [hE] at h; cases h), fun _ _ h => absurd h (by omega)⟩ hb
      · have hp : 0 < k := by omega
        have h8 := k3 hp
        have hnz : ((k : Int) == 0) = false := by simp; omega
        have hd : decide (0 < k) = true := by simp; omega
        have hp' : (0 : Int) < (k : Int) := by omega
        cases hq : tid.toList == (S 0).toList
        · cases hE : tid.toList.isEmpty
          · refine (other_E2 F _ _ _ k k tid W3 hF3 (S 0) hnz hd hp' hE hq p3 f3 q3 h8).mono ?_
            rintro e w' ⟨⟨r, rfl⟩, hb⟩
            exact fin r w' ⟨fun h => (by rcases h with h | h <;> cases h), fun _ _ h => absurd h hk, fun _ _ h => absurd h hk, fun _ _ _ h => (by rw [hq] at h; cases h)⟩ hb
          · refine (other_E1 F _ _ _ k k tid W3 hF3 (S 0) hnz hd hp' hE hq p3 f3 q3 h8).mono ?_
            rintro e w' ⟨⟨r, rfl⟩, hb⟩
            exact fin r w' ⟨fun h => (by rcases h with h | h <;> cases h), fun _ _ h => absurd h hk, fun _ _ h => absurd h hk, fun _ _ _ h => (by rw [hq] at h; cases h)⟩ hb
        · cases hE : tid.toList.isEmpty
          · refine (other_D2 F _ _ _ k k tid W3 hF3 (S 0) hnz hd hp' hE hq p3 f3 q3 h8).mono ?_
            rintro e w' ⟨rfl, hb⟩
            exact fin _ w' ⟨fun _ => rfl, fun _ _ h => absurd h hk, fun _ _ _ _ => rfl, fun _ _ _ _ => rfl⟩ hb
          · refine (other_D1 F _ _ _ k k tid W3 hF3 (S 0) hnz hd hp' hE hq p3 f3 q3 h8).mono ?_
            rintro e w' ⟨rfl, hb⟩
            exact fin _ w' ⟨fun _ => rfl, fun _ _ h => absurd h hk, fun _ _ _ _ => rfl, fun _ _ _ _ => rfl⟩ hb
    · refine (other_A2 F _ _ _ k k tid W3 hF3 p3 f3 q3).mono ?_
      rintro e w' ⟨rfl, hb⟩
      exact fin _ w' ⟨fun _ => rfl, fun _ h => (by cases h), fun _ h => (by cases h), fun _ h => (by cases h)⟩ hb

set_option maxHeartbeats 400000 in
theorem law_core (F : Interp) (flag nof : Bool) (tid : ByteArray) (ad : Option Addr) (n cap : Nat) (S : Nat → ByteArray) (w : World) (hF : F.answers w.tape) (hn : n ≤ 1024)
    (HC : Hid (0 < n → ∃ b off, ad = some ⟨b, off, none⟩ ∧ b < w.heap.size ∧ ∀ i, i < n → w.cell? ⟨b, off + i, none⟩ = some (.string (S i)))) :
    Calls Ybaf.prog 3 #[.bool flag, .bool nof, .string tid, .slice ad n cap] w fun e w' => e = .returned (.bool true) ∧ Below w.heap.size w w' := by
  have hgt : decide ((1024 : Int) < (n : Int)) = false := by simp; omega
  obtain ⟨i0, hi, hz0, hz1, hz2⟩ := info_parts info29
  obtain ⟨w0, hmk, hown, hgr⟩ := run_make_own (P := Ybaf.prog) w w.heap.size 23 29 i0 zero29 15 Ybaf.underlying23 hi hz0 hz1 .i64 .i64 n (by rw [hz2]; omega) (by unfold maxLen; omega) (Nat.le_refl _)
  go_enter Ybaf.func3, Ybaf.ntmps3
  go_wp2
  have hm0 : Msgs w n 0 S [] w0 := ⟨hown, (Below.refl _ w).grown hgr (Nat.le_refl _) (fun k hk => by cases hk), by
    rcases hown.2 with ⟨h, _⟩ | ⟨g, c, cur, hv, _, hh, _⟩
    · cases h
    · injection hv with hv; injection hv with hv; injection hv with hv; subst hv; exact (Array.getElem?_eq_some_iff.1 hh).1, fun h => absurd h (by omega)⟩
  have HM0 : Hid (Msgs w n 0 S [] w0) := hm0
  clear hmk hown hgr hm0
  go_loopw [9, 11, 23] (fun s9 _ i wr => ∃ (k : Nat) (xs : List Value), k ≤ n ∧ i = .int .i64 k ∧ s9 = .slice (some ⟨w.heap.size, 0, none⟩) k n ∧ Msgs w n k S xs wr) (fun _ _ i _ => n - (intOf i).toNat)
  case atStart => exact ⟨0, [], Nat.zero_le _, rfl, rfl, HM0.out⟩
  case round =>
    obtain ⟨k, xs, hk, rfl, rfl, hm⟩ := hrel
    have HM : Hid (Msgs w n k S xs wr) := hm
    by_cases hlt : k < n
    · obtain ⟨b, off, rfl, hb, hz⟩ := HC.out (by omega)
      have hzk := (hm.below.cell (p := ⟨b, off + k, none⟩) hb).trans (hz k hlt)
      clear hz hm
      go_wp2_with (at_builtin; refine wpList_append_fits _ rfl (.tmp 27) (.tmp 30) 23 rfl w.heap.size 29 i0 15 Ybaf.underlying23 hi hz1 w.heap.size k n xs rfl (HM.out.own.alloc _) ⟨wr.heap.size, 0, none⟩ 1 1 (msgX (S k)) rfl rfl (many_new _ _ _) (one_x _) (by omega) ?_; intro w1 ho1 hgr1; have hm1 := msgs_step HM.out ho1 hgr1; have HM1 : Hid (Msgs w n (k + 1) S (xs ++ msgX (S k)) w1) := hm1; clear hm1 ho1 hgr1)
      go_roundw
      case rel => exact ⟨k + 1, _, by omega, by go_num, rfl, HM1.out⟩
      case measure => simp [intOf]; omega
    · obtain rfl : k = n := by omega
      clear hm
      go_wp2_with fail
      refine (other_law F flag nof tid k S xs w wr hF HM.out).mono ?_
      rintro e w1 ⟨r, rfl, hb, h10, h8, ht⟩
      have HB : Hid (Below w.heap.size w w1) := hb
      have HT : Hid (Told flag nof tid k (S 0) r) := ht
      have H8 : Hid (0 < k → w1.cell? ⟨w.heap.size, 8, none⟩ = some (.string (S 0))) := h8
      have HZ : Hid (0 < k → ∃ b off, ad = some ⟨b, off, none⟩ ∧ w1.cell? ⟨b, off, none⟩ = some (.string (S 0))) := fun h => by
        obtain ⟨b, off, e, hbb, hz⟩ := HC.out h
        exact ⟨b, off, e, (hb.cell (p := ⟨b, off, none⟩) hbb).trans (by simpa using hz 0 h)⟩
      clear hb ht h8 HC
      have hkk : ((k : Int) != (k : Int)) = false := by simp
      by_cases hk0 : k = 0
      · have hd : decide (0 < k) = false := by simp; omega
        have hnz : ((k : Int) == 0) = true := by simp; omega
        cases flag
        · obtain rfl := HT.out.off (.inl rfl)
          go_wp2
          go_quiet (fail)
          go_wp2
          go_ret
          exact ⟨rfl, HB.out.trans (by repeat (first | exact Below.refl _ _ | refine below_dN ?_ | refine Below.drew ?_))⟩
        · cases nof
          · cases hE : tid.toList.isEmpty
            · obtain rfl := HT.out.lone rfl rfl hk0 hE
              go_wp2
              go_quiet (fail)
              go_wp2
              go_ret
              exact ⟨rfl, HB.out.trans (by repeat (first | exact Below.refl _ _ | refine below_dN ?_ | refine Below.drew ?_))⟩
            · obtain rfl := HT.out.bare rfl rfl hk0 hE
              go_wp2
              go_quiet (fail)
              go_wp2
              go_ret
              exact ⟨rfl, HB.out.trans (by repeat (first | exact Below.refl _ _ | refine below_dN ?_ | refine Below.drew ?_))⟩
          · obtain rfl := HT.out.off (.inr rfl)
            go_wp2
            go_quiet (fail)
            go_wp2
            go_ret
            exact ⟨rfl, HB.out.trans (by repeat (first | exact Below.refl _ _ | refine below_dN ?_ | refine Below.drew ?_))⟩
      · have hp : 0 < k := by omega
        have hp' : (0 : Int) < (k : Int) := by omega
        have hd : decide (0 < k) = true := by simp; omega
        have hnz : ((k : Int) == 0) = false := by simp; omega
        have h8 := H8.out hp
        obtain ⟨b, off, rfl, hz⟩ := HZ.out hp
        cases flag
        · obtain rfl := HT.out.off (.inl rfl)
          go_wp2
          go_quiet (fail)
          go_wp2
          go_ret
          exact ⟨rfl, HB.out.trans (by repeat (first | exact Below.refl _ _ | refine below_dN ?_ | refine Below.drew ?_))⟩
        · cases nof
          · cases hq : tid.toList == (S 0).toList
            · clear HT
              go_wp2
              go_quiet (fail)
              go_wp2
              go_ret
              exact ⟨rfl, HB.out.trans (by repeat (first | exact Below.refl _ _ | refine below_dN ?_ | refine Below.drew ?_))⟩
            · obtain rfl := HT.out.same rfl rfl hp hq
              go_wp2
              go_quiet (fail)
              go_wp2
              go_ret
              exact ⟨rfl, HB.out.trans (by repeat (first | exact Below.refl _ _ | refine below_dN ?_ | refine Below.drew ?_))⟩
          · obtain rfl := HT.out.off (.inr rfl)
            go_wp2
            go_quiet (fail)
            go_wp2
            go_ret
            exact ⟨rfl, HB.out.trans (by repeat (first | exact Below.refl _ _ | refine below_dN ?_ | refine Below.drew ?_))⟩
end Go.Proofs.YbulkchiyFmt
