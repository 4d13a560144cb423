/- THE WALK OF LawS4162CCrowd (function 7). -/
import Derived.Test.YbulkchecHeld
import Derived.RegionTactic
import Derived.LaidEqlPtr
namespace Go.Proofs.Ybulkchec
open Go.RowKit
set_option linter.unusedVariables false
set_option linter.unusedSimpArgs false

/-- What the crowd's count of mode j is. -/
def cnt (n : Nat) (Z : Nat → Int) (j : Nat) : Int := if j < n then Z j else 0

/-- AFTER k ROUNDS of the filling loop. -/
structure Fill (w : World) (n k : Nat) (Z : Nat → Int) (wr : World) : Prop where
  row : ∃ F, wr.rowIs w.heap.size 72 49 F ∧ ∀ j, j < 9 → F j = .int .i64 (if j < k then cnt n Z j else 0)
  below : Below w.heap.size w wr
  size : wr.heap.size = w.heap.size + 1

theorem fill_start (w : World) (n : Nat) (Z : Nat → Int) (C : Array Value) (hC : C.size = 49) (h9 : ∀ j, j < 9 → C[j]? = some (.int .i64 0)) : Fill w n 0 Z (w.alloc (.cells C 72)) := by
  refine ⟨⟨fun j => C.getD j undef, ?_, fun j hj => ?_⟩, (Below.refl _ w).alloc (Nat.le_refl _) _, by simp⟩
  · have := World.rowIs_alloc w C 72 (fun j => C.getD j undef) (fun i hi => by simp [Array.getD, hi])
    rw [hC] at this
    exact this
  · have h := h9 j hj
    have hlt : j < C.size := by omega
    rw [Array.getElem?_eq_getElem hlt] at h
    simp only [Array.getD, hlt, dif_pos]
    injection h with h

theorem Fill.drew {w : World} {n k : Nat} {Z : Nat → Int} {wr : World} (h : Fill w n k Z wr) : Fill w n k Z wr.drew := ⟨h.row, h.below.drew, h.size⟩

theorem fill_set {w : World} {n k : Nat} {Z : Nat → Int} {wr : World} (h : Fill w n k Z wr) (hk : k < 9) (v : Int) (hv : v = cnt n Z k) : Fill w n (k + 1) Z (wr.setCell ⟨w.heap.size, k, none⟩ (.int .i64 v)) := by
  obtain ⟨F, hF, h9⟩ := h.row
  refine ⟨⟨_, hF.set k _, fun j hj => ?_⟩, h.below.setCell (Nat.le_refl _) _, by simpa using h.size⟩
  show (if j = k then _ else _) = _
  by_cases e : j = k
  · subst e; rw [if_pos rfl, if_pos (by omega), hv]
  · rw [if_neg e, h9 j hj]
    by_cases e2 : j < k
    · rw [if_pos e2, if_pos (by omega)]
    · rw [if_neg e2, if_neg (by omega)]

theorem fill_skip {w : World} {n k : Nat} {Z : Nat → Int} {wr : World} (h : Fill w n k Z wr) (hk : ¬ k < n) : Fill w n (k + 1) Z wr := by
  obtain ⟨F, hF, h9⟩ := h.row
  refine ⟨⟨F, hF, fun j hj => ?_⟩, h.below, h.size⟩
  rw [h9 j hj]
  by_cases e2 : j < k
  · rw [if_pos e2, if_pos (by omega)]
  · rw [if_neg e2]
    by_cases e : j < k + 1
    · obtain rfl : j = k := by omega
      rw [if_pos e, cnt, if_neg hk]
    · rw [if_neg e]

/-- 't.heldByOthers(own)' as the law calls it, and what may be read behind it. -/
theorem held_law (own tx ses : Int) (o0 : 0 ≤ own) (o1 : own ≤ 65535) (V : Nat → Int) (hV : ∀ j, -128 ≤ V j ∧ V j ≤ 127) (w wr : World) (hsz : w.heap.size < wr.heap.size) (hb : Below w.heap.size w wr)
    (hr : ∀ j, j < 9 → wr.cell? ⟨w.heap.size, j, none⟩ = some (.int .i64 (V j))) :
    Calls Yba.prog 12 #[.pointer (some ⟨wr.heap.size + 1, 0, none⟩), .int .u16 own]
      ((wr.alloc (.cells #[.int .i64 (V 0), .int .i64 (V 1), .int .i64 (V 2), .int .i64 (V 3), .int .i64 (V 4), .int .i64 (V 5), .int .i64 (V 6), .int .i64 (V 7), .int .i64 (V 8)] 66)).alloc
        (.cells #[.string ⟨#[]⟩, .string ⟨#[]⟩, .int .i64 0, .bool false, .int .u8 0, .int .u64 0, .int .u16 tx, .int .u16 ses, .pointer none, .pointer none, .pointer none, .pointer none, .pointer none, .pointer (some ⟨w.heap.size, 0, none⟩)] 62))
      fun e w' => e = .returned (.int .u16 (setTo own V 9)) ∧ (∀ j, j < 9 → w'.cell? ⟨w.heap.size, j, none⟩ = some (.int .i64 (V j))) ∧ (∀ j, j < 9 → w'.cell? ⟨wr.heap.size, j, none⟩ = some (.int .i64 (V j))) ∧
        w'.cell? ⟨wr.heap.size + 1, 13, none⟩ = some (.pointer (some ⟨w.heap.size, 0, none⟩)) ∧ Below w.heap.size w w' := by
  obtain ⟨W1, hW1⟩ : ∃ W1, W1 = wr.alloc (.cells #[.int .i64 (V 0), .int .i64 (V 1), .int .i64 (V 2), .int .i64 (V 3), .int .i64 (V 4), .int .i64 (V 5), .int .i64 (V 6), .int .i64 (V 7), .int .i64 (V 8)] 66) := ⟨_, rfl⟩
  have hs1 : W1.heap.size = wr.heap.size + 1 := by rw [hW1]; simp
  have hb1 : Below w.heap.size w W1 := by rw [hW1]; exact hb.alloc (by omega) _
  have h1 : ∀ j, j < 9 → W1.cell? ⟨w.heap.size, j, none⟩ = some (.int .i64 (V j)) := fun j hj => by rw [hW1, World.cell?_alloc_past _ _ _ hsz]; exact hr j hj
  have h2 : ∀ j, j < 9 → W1.cell? ⟨wr.heap.size, j, none⟩ = some (.int .i64 (V j)) := fun j hj => by
    rw [hW1, World.cell?_alloc_at _ _ _ _ rfl]
    rcases (by omega : j = 0 ∨ j = 1 ∨ j = 2 ∨ j = 3 ∨ j = 4 ∨ j = 5 ∨ j = 6 ∨ j = 7 ∨ j = 8) with rfl | rfl | rfl | rfl | rfl | rfl | rfl | rfl | rfl
    all_goals rfl
  rw [← hW1]
  clear hW1
  obtain ⟨W2, hW2⟩ : ∃ W2, W2 = W1.alloc (.cells #[.string ⟨#[]⟩, .string ⟨#[]⟩, .int .i64 0, .bool false, .int .u8 0, .int .u64 0, .int .u16 tx, .int .u16 ses, .pointer none, .pointer none, .pointer none, .pointer none, .pointer none, .pointer (some ⟨w.heap.size, 0, none⟩)] 62) := ⟨_, rfl⟩
  have hb2 : Below w.heap.size w W2 := by rw [hW2]; exact hb1.alloc (by omega) _
  have g1 : ∀ j, j < 9 → W2.cell? ⟨w.heap.size, j, none⟩ = some (.int .i64 (V j)) := fun j hj => by rw [hW2, World.cell?_alloc_past _ _ _ (by omega)]; exact h1 j hj
  have g2 : ∀ j, j < 9 → W2.cell? ⟨wr.heap.size, j, none⟩ = some (.int .i64 (V j)) := fun j hj => by rw [hW2, World.cell?_alloc_past _ _ _ (by omega)]; exact h2 j hj
  have g3 : W2.cell? ⟨wr.heap.size + 1, 13, none⟩ = some (.pointer (some ⟨w.heap.size, 0, none⟩)) := by rw [hW2, World.cell?_alloc_at _ _ _ _ hs1.symm]; rfl
  rw [← hW2]
  clear hW2
  refine (held_any own o0 o1 (wr.heap.size + 1) w.heap.size V W2 hV g3 g1).mono ?_
  rintro e w' ⟨rfl, rfl⟩
  exact ⟨rfl, g1, g2, g3, hb2⟩

/-- '==' between a pointer to a crowd and itself. -/
theorem same60 (b : Nat) (w : World) : (binOp .eql 60 (.pointer (some ⟨b, 0, none⟩)) (.pointer (some ⟨b, 0, none⟩))).run Yba.prog w = .ok (.bool true) w := by
  have hp : Yba.prog.underlying 60 = some (.pointer 72) := by kernel_rfl
  have hs : (Yba.prog.info? 72).isSome = true := by kernel_rfl
  obtain ⟨j, hj⟩ := Option.isSome_iff_exists.1 hs
  exact run_eql_ptr_same w _ hp hj

set_option maxHeartbeats 400000 in
theorem crowd_core (own tx ses : Int) (o0 : 0 ≤ own) (o1 : own ≤ 65535) (ad : Option Addr) (n cap : Nat) (Z : Nat → Int) (w : World) (hn : n ≤ 9223372036854775807) (HZ : Hid (∀ j, -128 ≤ Z j ∧ Z j ≤ 127))
    (HC : Hid (0 < n → ∃ b off, ad = some ⟨b, off, none⟩ ∧ b < w.heap.size ∧ ∀ i, i < n → w.cell? ⟨b, off + i, none⟩ = some (.int .i8 (Z i)))) :
    Calls Yba.prog 7 #[.slice ad n cap, .int .u16 own, .int .u16 tx, .int .u16 ses] w fun e w' => e = .returned (.bool true) ∧ Below w.heap.size w w' := by
  go_enter Yba.func7, Yba.ntmps7
  go_wp2
  go_loopw [10, 20] (fun _ i wr => ∃ k : Nat, k ≤ 9 ∧ i = .int .i64 k ∧ Fill w n k Z wr) (fun _ i _ => 9 - (intOf i).toNat)
  case atStart =>
    refine ⟨0, Nat.zero_le _, rfl, fill_start w n Z _ rfl (fun j hj => ?_)⟩
    rcases (by omega : j = 0 ∨ j = 1 ∨ j = 2 ∨ j = 3 ∨ j = 4 ∨ j = 5 ∨ j = 6 ∨ j = 7 ∨ j = 8) with rfl | rfl | rfl | rfl | rfl | rfl | rfl | rfl | rfl
    all_goals rfl
  case round =>
    obtain ⟨k, hk, rfl, hf⟩ := hrel
    have HF : Hid (Fill w n k Z wr) := hf
    by_cases hlt : k < 9
    · by_cases hkn : k < n
      · obtain ⟨b, off, rfl, hb, hz⟩ := HC.out (by omega)
        have hzk := (hf.below.cell (p := ⟨b, off + k, none⟩) hb).trans (hz k hkn)
        obtain ⟨hv1, hv2⟩ := HZ.out k
        obtain ⟨F, hF, h9⟩ := hf.row
        have hcell := hF.cell (i := k) (by omega)
        have hfro := hF.frozen k
        obtain ⟨v, hv⟩ : ∃ v, v = Z k := ⟨_, rfl⟩
        have HV : Hid (v = cnt n Z k) := by show _ = _; rw [cnt, if_pos hkn]; exact hv
        rw [← hv] at hzk hv1 hv2
        have hk9 : (k : Int) < 9 := by omega
        have hk0 : (0 : Int) ≤ (k : Int) := by omega
        have hkn' : (k : Int) < (n : Int) := by omega
        clear hf hz hF h9 hv
        go_wp2
        go_region
        all_goals
          go_wp2
          go_roundw
          case rel => exact ⟨k + 1, by omega, by go_num, (fill_set HF.out hlt v HV.out).drew⟩
          case measure => simp [intOf]; omega
      · have hkn' : ¬ (k : Int) < (n : Int) := by omega
        clear hf
        go_wp2
        go_roundw
        case rel => exact ⟨k + 1, by omega, by go_num, fill_skip HF.out hkn⟩
        case measure => simp [intOf]; omega
    · obtain rfl : k = 9 := by omega
      have hV : ∀ j, -128 ≤ cnt n Z j ∧ cnt n Z j ≤ 127 := fun j => by
        unfold cnt
        have := HZ.out j
        split <;> omega
      obtain ⟨V, hVe⟩ : ∃ V, V = cnt n Z := ⟨_, rfl⟩
      rw [← hVe] at hV
      have HV : Hid (∀ j, -128 ≤ V j ∧ V j ≤ 127) := hV
      have HR : Hid (∀ j, j < 9 → wr.cell? ⟨w.heap.size, j, none⟩ = some (.int .i64 (V j))) := by
        obtain ⟨F, hF, h9⟩ := hf.row
        intro j hj
        rw [hF.cell (by omega), h9 j hj, if_pos hj, hVe]
      have hsz : w.heap.size < wr.heap.size := by have := hf.size; omega
      have HB : Hid (Below w.heap.size w wr) := hf.below
      have c0 := HR.out 0 (by omega)
      have c1 := HR.out 1 (by omega)
      have c2 := HR.out 2 (by omega)
      have c3 := HR.out 3 (by omega)
      have c4 := HR.out 4 (by omega)
      have c5 := HR.out 5 (by omega)
      have c6 := HR.out 6 (by omega)
      have c7 := HR.out 7 (by omega)
      have c8 := HR.out 8 (by omega)
      clear hf HF hVe hV HZ HC hk hlt
      go_wp2_with fail
      refine (held_law own tx ses o0 o1 V HV.out w wr hsz HB.out HR.out).mono ?_
      rintro e w1 ⟨rfl, hr1, hr2, hp, hb⟩
      clear c0 c1 c2 c3 c4 c5 c6 c7 c8 HR HB
      obtain ⟨N, hN⟩ : ∃ N, N = w.heap.size := ⟨_, rfl⟩
      obtain ⟨Q, hQ⟩ : ∃ Q, Q = wr.heap.size := ⟨_, rfl⟩
      have HR1 : Hid (∀ j, j < 9 → w1.cell? ⟨w.heap.size, j, none⟩ = some (.int .i64 (V j))) := hr1
      have HR2 : Hid (∀ j, j < 9 → w1.cell? ⟨wr.heap.size, j, none⟩ = some (.int .i64 (V j))) := hr2
      have HB : Hid (Below w.heap.size w w1) := hb
      obtain ⟨G, hG⟩ : ∃ G, G = setTo own V 9 := ⟨_, rfl⟩
      have HG : Hid (G = setTo own V 9) := hG
      rw [← hG]
      clear hr1 hr2 hb hG hN hQ
      go_wp2
      go_loop [14, 15, 16, 17] (fun s i _ _ => ∃ k : Nat, k ≤ 9 ∧ i = .int .i64 k ∧ s = .int .u16 (setTo own V k)) (fun _ i _ _ => 9 - (intOf i).toNat)
      case atStart => exact ⟨0, Nat.zero_le _, rfl, rfl⟩
      case round =>
        obtain ⟨k, hk, rfl, rfl⟩ := hrel
        by_cases hlt : k < 9
        · obtain ⟨hh1, hh2⟩ := HV.out k
          have hck := HR2.out k hlt
          have HS : Hid (setTo own V (k + 1) = if (if hasB own k then 1 else 0) < V k then bits BinOp.or IntKind.u16 (setTo own V k) (IntKind.u16.wrap (2 ^ k)) else setTo own V k) := rfl
          obtain ⟨S, hS⟩ : ∃ S, S = setTo own V k := ⟨_, rfl⟩
          obtain ⟨S1, hS1⟩ : ∃ S1, S1 = setTo own V (k + 1) := ⟨_, rfl⟩
          rw [← hS] at HS ⊢
          rw [← hS1] at HS
          have HS0 : Hid (S1 = setTo own V (k + 1)) := hS1
          clear hS hS1
          obtain ⟨x, hx⟩ : ∃ x, x = V k := ⟨_, rfl⟩
          rw [← hx] at hck hh1 hh2 HS
          clear hx
          cases hb : hasB own k
          · rw [hb] at HS
            have hb' : (bits BinOp.and IntKind.u16 own (IntKind.u16.wrap (2 ^ k)) != 0) = false := hb
            clear hb
            by_cases hp : 0 < x
            · go_wp2
              go_round
              case rel => exact ⟨k + 1, by omega, by go_num, by rw [← show S1 = setTo own V (k + 1) from HS0, show S1 = _ from HS, if_pos (by simpa using hp)]⟩
              case measure => simp [intOf]; omega
            · go_wp2
              go_round
              case rel => exact ⟨k + 1, by omega, by go_num, by rw [← show S1 = setTo own V (k + 1) from HS0, show S1 = _ from HS, if_neg (by simpa using hp)]⟩
              case measure => simp [intOf]; omega
          · rw [hb] at HS
            have hb' : (bits BinOp.and IntKind.u16 own (IntKind.u16.wrap (2 ^ k)) != 0) = true := hb
            clear hb
            by_cases hp : 1 < x
            · go_wp2
              go_round
              case rel => exact ⟨k + 1, by omega, by go_num, by rw [← show S1 = setTo own V (k + 1) from HS0, show S1 = _ from HS, if_pos (by simpa using hp)]⟩
              case measure => simp [intOf]; omega
            · go_wp2
              go_round
              case rel => exact ⟨k + 1, by omega, by go_num, by rw [← show S1 = setTo own V (k + 1) from HS0, show S1 = _ from HS, if_neg (by simpa using hp)]⟩
              case measure => simp [intOf]; omega
        · obtain rfl : k = 9 := by omega
          rw [← show G = setTo own V 9 from HG]
          have hsm : (G == G) = true := by simp
          have heq := eq_nine V
          have c0 := HR1.out 0 (by omega)
          have c1 := HR1.out 1 (by omega)
          have c2 := HR1.out 2 (by omega)
          have c3 := HR1.out 3 (by omega)
          have c4 := HR1.out 4 (by omega)
          have c5 := HR1.out 5 (by omega)
          have c6 := HR1.out 6 (by omega)
          have c7 := HR1.out 7 (by omega)
          have c8 := HR1.out 8 (by omega)
          have d0 := HR2.out 0 (by omega)
          have d1 := HR2.out 1 (by omega)
          have d2 := HR2.out 2 (by omega)
          have d3 := HR2.out 3 (by omega)
          have d4 := HR2.out 4 (by omega)
          have d5 := HR2.out 5 (by omega)
          have d6 := HR2.out 6 (by omega)
          have d7 := HR2.out 7 (by omega)
          have d8 := HR2.out 8 (by omega)
          have hpp : ∀ w', (binOp .eql 60 (.pointer (some ⟨w.heap.size, 0, none⟩)) (.pointer (some ⟨w.heap.size, 0, none⟩))).run Yba.prog w' = .ok (.bool true) w' := fun w' => same60 w.heap.size w'
          clear HR1 HR2 HV
          go_wp2
          go_quiet (fail)
          go_wp2
          go_ret
          exact ⟨rfl, HB.out.trans ⟨rfl, rfl, rfl, Nat.le_refl _, fun _ _ => rfl⟩⟩
end Go.Proofs.Ybulkchec
