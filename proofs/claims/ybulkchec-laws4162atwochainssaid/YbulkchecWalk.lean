/- THE CONTRACT OF zzs4162awalk (function 10): on a list that holds just what is wanted it answers true and only reads. -/
import Derived.Test.YbulkchecLinks
import Derived.BigQuiet
import Derived.Deep.QuietTactic
namespace Go.Proofs.Ybulkchec
open Go.RowKit
set_option linter.unusedVariables false
set_option linter.unusedSimpArgs false

theorem walk_nil (c bl : Nat) (w : World) (ad : Option Addr) (cap : Nat) (hc : c = 0 ∨ c = 1) (h : Linked w c bl []) :
    Calls Yba.prog 10 #[pb bl, .int .u8 c, .slice ad 0 cap] w fun e w' => e = .returned (.bool true) ∧ ∃ m, w' = w.drewN m := by
  have h0 := h.first
  have h1 := h.last
  simp only [List.length_nil, Nat.lt_irrefl, if_false] at h0 h1
  clear h
  go_enter Yba.func10, Yba.ntmps10
  go_wp2
  go_ret
  exact ⟨rfl, 0, rfl⟩

/-- What the walk's slot p holds at the head of round k. -/
def ptAt (n : Nat) (f : Nat → Nat) (k : Nat) : Value := if k < n then pb (f k) else .pointer none

theorem walk_core (c bl A cap n : Nat) (f : Nat → Nat) (w : World) (hc : c = 0 ∨ c = 1) (hL : 0 < n) (hn : n ≤ 1024)
    (h0 : w.cell? ⟨bl, 0, none⟩ = some (pb (f 0))) (h1 : w.cell? ⟨bl, 1, none⟩ = some (pb (f (n - 1))))
    (HP : Hid (∀ i, i < n → w.cell? ⟨f i, 14 + 2 * c, none⟩ = some (if 0 < i then pb (f (i - 1)) else .pointer none)))
    (HN : Hid (∀ i, i < n → w.cell? ⟨f i, 15 + 2 * c, none⟩ = some (if i + 1 < n then pb (f (i + 1)) else .pointer none)))
    (HW : Hid (∀ i, i < n → w.cell? ⟨A, i, none⟩ = some (pb (f i)))) :
    Calls Yba.prog 10 #[pb bl, .int .u8 c, .slice (some ⟨A, 0, none⟩) n cap] w fun e w' => e = .returned (.bool true) ∧ ∃ m, w' = w.drewN m := by
  have hw0 := HW.out 0 hL
  have hw1 := HW.out (n - 1) (by omega)
  have hnz : ((n : Int) == 0) = false := by simp; omega
  have hb1 : (0 : Int) < (n : Int) := by omega
  have hsame := neq_same
  rcases hc with rfl | rfl
  all_goals
    go_enter Yba.func10, Yba.ntmps10
    go_wp2
    go_quiet (fail)
    go_wp2
    go_loop [8, 9, 10, 11] (fun p i _ _ => ∃ k : Nat, k ≤ n ∧ i = .int .i64 k ∧ p = ptAt n f k) (fun _ i _ _ => n - (intOf i).toNat)
    case atStart => exact ⟨0, Nat.zero_le _, rfl, by simp [ptAt, hL]⟩
    case round =>
      obtain ⟨k, hk, rfl, rfl⟩ := hrel
      by_cases hlt : k < n
      · have hp := HP.out k hlt
        have hx := HN.out k hlt
        have hw := HW.out k hlt
        rw [ptAt, if_pos hlt]
        by_cases hk0 : 0 < k
        · rw [if_pos hk0] at hp
          have hwp := HW.out (k - 1) (by omega)
          by_cases hk1 : k + 1 < n
          · rw [if_pos hk1] at hx
            have hwn := HW.out (k + 1) hk1
            have hk1' : (k : Int) < (n : Int) - 1 := by omega
            go_wp2
            go_round
            case rel => exact ⟨k + 1, by omega, by go_num, by rw [ptAt, if_pos hk1]⟩
            case measure => simp [intOf]; omega
          · rw [if_neg hk1] at hx
            have hk1' : ¬ (k : Int) < (n : Int) - 1 := by omega
            go_wp2
            go_round
            case rel => exact ⟨k + 1, by omega, by go_num, by rw [ptAt, if_neg hk1]⟩
            case measure => simp [intOf]; omega
        · rw [if_neg hk0] at hp
          have hk0' : ¬ (0 : Int) < (k : Int) := by omega
          by_cases hk1 : k + 1 < n
          · rw [if_pos hk1] at hx
            have hwn := HW.out (k + 1) hk1
            have hk1' : (k : Int) < (n : Int) - 1 := by omega
            go_wp2
            go_round
            case rel => exact ⟨k + 1, by omega, by go_num, by rw [ptAt, if_pos hk1]⟩
            case measure => simp [intOf]; omega
          · rw [if_neg hk1] at hx
            have hk1' : ¬ (k : Int) < (n : Int) - 1 := by omega
            go_wp2
            go_round
            case rel => exact ⟨k + 1, by omega, by go_num, by rw [ptAt, if_neg hk1]⟩
            case measure => simp [intOf]; omega
      · rw [ptAt, if_neg hlt]
        go_wp2
        go_ret
        exact ⟨rfl, _, rfl⟩

/-- 'zzs4162awalk(l, c, want)', the list holding just what is wanted. -/
theorem walk_any (c bl A cap n : Nat) (L : List Nat) (w : World) (hc : c = 0 ∨ c = 1) (e : n = L.length) (hn : n ≤ 1024) (h : Linked w c bl L)
    (hw : ∀ i, i < n → w.cell? ⟨A, i, none⟩ = some (pb (L.getD i 0))) :
    Calls Yba.prog 10 #[pb bl, .int .u8 c, .slice (some ⟨A, 0, none⟩) n cap] w fun e w' => e = .returned (.bool true) ∧ ∃ m, w' = w.drewN m := by
  by_cases h0 : 0 < L.length
  · have h1 := h.first
    have h2 := h.last
    rw [if_pos h0] at h1 h2
    subst e
    exact walk_core c bl A cap L.length (fun i => L.getD i 0) w hc h0 hn h1 h2 h.prev h.next hw
  · obtain rfl : L = [] := List.eq_nil_of_length_eq_zero (by omega)
    obtain rfl : n = 0 := e
    exact walk_nil c bl w _ cap hc h
end Go.Proofs.Ybulkchec
