/- LAW CCrowd: (modeSet).has (function 14) and (*lockedObject).heldByOthers (function 12) with a crowd: the contracts, over a plain fold 'setTo'. -/
import Derived.Test.YbulkchecRows
import Derived.WalkKit
import Derived.BigQuiet
import Derived.Deep.QuietTactic
import Derived.Deep.OwnRows
import Derived.ChangeKeysEq
namespace Go.Proofs.Ybulkchec
open Go.RowKit
set_option linter.unusedVariables false
set_option linter.unusedSimpArgs false

/-- Is mode k in the set 'own', as the walk spells it. -/
def hasB (own : Int) (k : Nat) : Bool := bits BinOp.and IntKind.u16 own (IntKind.u16.wrap (2 ^ k)) != 0
/-- The modes below k that others hold. -/
def setTo (own : Int) (H : Nat → Int) : Nat → Int
  | 0 => 0
  | k + 1 => if (if hasB own k then 1 else 0) < H k then bits BinOp.or IntKind.u16 (setTo own H k) (IntKind.u16.wrap (2 ^ k)) else setTo own H k

theorem has_any (own : Int) (h0 : 0 ≤ own) (h1 : own ≤ 65535) (k : Nat) (hk : k < 9) (w : World) :
    Calls Yba.prog 14 #[.int .u16 own, .int .u8 k] w fun e w' => e = .returned (.bool (hasB own k)) ∧ w = w' := by
  go_enter Yba.func14, Yba.ntmps14
  go_wp2
  go_ret
  exact ⟨rfl, rfl⟩

abbrev nine (H : Nat → Int) : List Value := [.int .i64 (H 0), .int .i64 (H 1), .int .i64 (H 2), .int .i64 (H 3), .int .i64 (H 4), .int .i64 (H 5), .int .i64 (H 6), .int .i64 (H 7), .int .i64 (H 8)]

theorem idx_nine (H : Nat → Int) (k : Nat) (hk : k < 9) (w : World) :
    (Instr.index 66 (.agg #[.int .i64 (H 0), .int .i64 (H 1), .int .i64 (H 2), .int .i64 (H 3), .int .i64 (H 4), .int .i64 (H 5), .int .i64 (H 6), .int .i64 (H 7), .int .i64 (H 8)]) (.int .i64 (k : Int))).run Yba.prog w = .ok (.int .i64 (H k)) w := by
  rcases (by omega : k = 0 ∨ k = 1 ∨ k = 2 ∨ k = 3 ∨ k = 4 ∨ k = 5 ∨ k = 6 ∨ k = 7 ∨ k = 8) with rfl | rfl | rfl | rfl | rfl | rfl | rfl | rfl | rfl
  all_goals kernel_rfl

theorem held_any (own : Int) (h0 : 0 ≤ own) (h1 : own ≤ 65535) (bt bc : Nat) (H : Nat → Int) (w : World) (hH : ∀ k, -128 ≤ H k ∧ H k ≤ 127)
    (ht : w.cell? ⟨bt, 13, none⟩ = some (.pointer (some ⟨bc, 0, none⟩))) (hc : ∀ k, k < 9 → w.cell? ⟨bc, k, none⟩ = some (.int .i64 (H k))) :
    Calls Yba.prog 12 #[.pointer (some ⟨bt, 0, none⟩), .int .u16 own] w fun e w' => e = .returned (.int .u16 (setTo own H 9)) ∧ w = w' := by
  have c0 := hc 0 (by omega)
  have c1 := hc 1 (by omega)
  have c2 := hc 2 (by omega)
  have c3 := hc 3 (by omega)
  have c4 := hc 4 (by omega)
  have c5 := hc 5 (by omega)
  have c6 := hc 6 (by omega)
  have c7 := hc 7 (by omega)
  have c8 := hc 8 (by omega)
  have HH : Hid (∀ k, -128 ≤ H k ∧ H k ≤ 127) := hH
  clear hc hH
  go_enter Yba.func12, Yba.ntmps12
  go_wp2
  clear c0 c1 c2 c3 c4 c5 c6 c7 c8 ht
  go_loop [5, 6, 7, 28] (fun s _ _ i => ∃ k : Nat, k ≤ 9 ∧ i = .int .i64 k ∧ s = .int .u16 (setTo own H k)) (fun _ _ _ i => 9 - (intOf i).toNat)
  case atStart => exact ⟨0, Nat.zero_le _, rfl, rfl⟩
  case round =>
    obtain ⟨k, hk, rfl, rfl⟩ := hrel
    by_cases hlt : k < 9
    · have hix := idx_nine H k hlt
      obtain ⟨hh1, hh2⟩ := HH.out k
      have HS : Hid (setTo own H (k + 1) = if (if hasB own k then 1 else 0) < H k then bits BinOp.or IntKind.u16 (setTo own H k) (IntKind.u16.wrap (2 ^ k)) else setTo own H k) := rfl
      obtain ⟨S, hS⟩ : ∃ S, S = setTo own H k := ⟨_, rfl⟩
      obtain ⟨S1, hS1⟩ : ∃ S1, S1 = setTo own H (k + 1) := ⟨_, rfl⟩
      rw [← hS] at HS ⊢
      rw [← hS1] at HS
      have HS0 : Hid (S1 = setTo own H (k + 1)) := hS1
      clear hS hS1
      obtain ⟨x, hx⟩ : ∃ x, x = H k := ⟨_, rfl⟩
      rw [← hx] at hix hh1 hh2 HS
      clear hx
      cases hb : hasB own k
      · rw [hb] at HS
        have HB : Hid (hasB own k = false) := hb
        clear hb
        by_cases hp : 0 < x
        · go_wp2_with (go_at_call 14; refine (has_any own h0 h1 k hlt _).mono ?_; rintro e w' ⟨rfl, rfl⟩; rw [show hasB own k = false from HB])
          go_round
          case rel => exact ⟨k + 1, by omega, by go_num, by rw [← show S1 = setTo own H (k + 1) from HS0, show S1 = _ from HS, if_pos (by simpa using hp)]⟩
          case measure => simp [intOf]; omega
        · go_wp2_with (go_at_call 14; refine (has_any own h0 h1 k hlt _).mono ?_; rintro e w' ⟨rfl, rfl⟩; rw [show hasB own k = false from HB])
          go_round
          case rel => exact ⟨k + 1, by omega, by go_num, by rw [← show S1 = setTo own H (k + 1) from HS0, show S1 = _ from HS, if_neg (by simpa using hp)]⟩
          case measure => simp [intOf]; omega
      · rw [hb] at HS
        have HB : Hid (hasB own k = true) := hb
        clear hb
        by_cases hp : 1 < x
        · go_wp2_with (go_at_call 14; refine (has_any own h0 h1 k hlt _).mono ?_; rintro e w' ⟨rfl, rfl⟩; rw [show hasB own k = true from HB])
          go_round
          case rel => exact ⟨k + 1, by omega, by go_num, by rw [← show S1 = setTo own H (k + 1) from HS0, show S1 = _ from HS, if_pos (by simpa using hp)]⟩
          case measure => simp [intOf]; omega
        · go_wp2_with (go_at_call 14; refine (has_any own h0 h1 k hlt _).mono ?_; rintro e w' ⟨rfl, rfl⟩; rw [show hasB own k = true from HB])
          go_round
          case rel => exact ⟨k + 1, by omega, by go_num, by rw [← show S1 = setTo own H (k + 1) from HS0, show S1 = _ from HS, if_neg (by simpa using hp)]⟩
          case measure => simp [intOf]; omega
    · obtain rfl : k = 9 := by omega
      go_wp2
      go_ret
      exact ⟨rfl, rfl⟩
theorem part_nine (H : Nat → Int) (k : Nat) (hk : k < 9) (w : World) : (part 3 (nine H).toArray (k * Yba.prog.cellsOf 3)).run Yba.prog w = .ok (.int .i64 (H k)) w := by
  rcases (by omega : k = 0 ∨ k = 1 ∨ k = 2 ∨ k = 3 ∨ k = 4 ∨ k = 5 ∨ k = 6 ∨ k = 7 ∨ k = 8) with rfl | rfl | rfl | rfl | rfl | rfl | rfl | rfl | rfl
  all_goals kernel_rfl

theorem items_nine (H : Nat → Int) (d : Nat) (w : World) : ∀ (is : List Nat), (∀ i ∈ is, i < 9) → (Op.eqItems (d + 1) 3 (Yba.prog.cellsOf 3) (nine H).toArray (nine H).toArray is).run Yba.prog w = .ok true w
  | [], _ => by simp [Op.eqItems]
  | i :: is, h => by
    have hp := part_nine H i (h i (by simp)) w
    have he := run_equalIn_int (P := Yba.prog) w d 3 .i64 .i64 (H i) (H i) (by kernel_rfl)
    simp only [Op.eqItems, Sem.run_bind, hp, Result.andThen_ok, he]
    simp [items_nine H d w is (fun j hj => h j (by simp [hj]))]

theorem eq_nine (H : Nat → Int) (w : World) : (binOp .eql 66 (.agg (nine H).toArray) (.agg (nine H).toArray)).run Yba.prog w = .ok (.bool true) w := by
  have hu : Yba.prog.underlying 66 = some (.array 9 3) := by kernel_rfl
  have hs : (Yba.prog.info? 3).isSome = true := by kernel_rfl
  obtain ⟨j, hj⟩ := Option.isSome_iff_exists.1 hs
  have h : ∀ d : Nat, (Op.equalIn (d + 2) 66 (.agg (nine H).toArray) (.agg (nine H).toArray)).run Yba.prog w = .ok true w := fun d => by
    rw [run_equalIn_array w (d + 1) _ _ hu hj]
    exact items_nine H d w _ (fun i hi => by simpa using hi)
  simp only [binOp]
  simp [Op.equal, Op.maxDepth, h 9998]
end Go.Proofs.Ybulkchec
