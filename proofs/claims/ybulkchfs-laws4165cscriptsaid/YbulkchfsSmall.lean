/- CONTRACTS OF THE SMALL METHODS: settle (46), finish (38), stall (40), end (41). -/
import Derived.Test.YbulkchfsFields
namespace Go.Proofs.Ybulkchfs
open Go.RowKit Go.Lib
set_option linter.unusedVariables false
set_option linter.unusedSimpArgs false

def neF (a b : Value) : Sem Value := binOp .neq 1 a b
theorem neF_eq (a b : Value) : binOp .neq 1 a b = neF a b := rfl
theorem ne_nilFunc (w : World) : (neF .nilFunc .nilFunc).run Yba.prog w = .ok (.bool false) w := by kernel_rfl
attribute [local go_sem ↓] neF_eq
attribute [local go_sem] ne_nilFunc

theorem settle_any (w : World) (bl : Nat) (h75 : w.cell? ⟨bl, 75, none⟩ = some .nilFunc) : Calls Yba.prog 46 #[pb bl] w fun e w' => e = .returned (.tuple #[]) ∧ w' = w := by
  go_enter Yba.func46, Yba.ntmps46
  go_wp2
  go_end0
  exact ⟨rfl, rfl⟩

theorem finish_any (w : World) (bl : Nat) (b : Bool) (h75 : w.cell? ⟨bl, 75, none⟩ = some .nilFunc) (h74 : w.cell? ⟨bl, 74, none⟩ = some (.bool b)) (f74 : w.frozen? ⟨bl, 74, none⟩ = false) : Calls Yba.prog 38 #[pb bl] w fun e w' => e = .returned (.tuple #[]) ∧ w' = w.setCell ⟨bl, 74, none⟩ (.bool true) := by
  have hs := settle_any (w.setCell ⟨bl, 74, none⟩ (.bool true)) bl ((cell_set_other _ (by omega)).trans h75)
  go_enter Yba.func38, Yba.ntmps38
  go_wp2_with (go_at_call 46; refine hs.mono ?_; rintro _ _ ⟨rfl, rfl⟩)
  go_end0
  exact ⟨rfl, rfl⟩

theorem stall_any (w : World) (bl b : Nat) (u a s : Int) (h26 : w.cell? ⟨b, 26, none⟩ = some (.int .i64 u)) (h68 : w.cell? ⟨bl, 68, none⟩ = some (.int .i64 a)) (h69 : w.cell? ⟨bl, 69, none⟩ = some (.int .i64 s)) (f69 : w.frozen? ⟨bl, 69, none⟩ = false) (hs : 0 ≤ s ∧ s ≤ 1000000) :
    Calls Yba.prog 40 #[pb bl, pb b] w fun e w' => e = .returned (.tuple #[]) ∧ ∃ n, w' = if u = a then (w.drewN n).setCell ⟨bl, 69, none⟩ (.int .i64 (s + 1)) else w.drewN n := by
  have hw : IntKind.i64.wrap (s + 1) = s + 1 := by rw [IntKind.wrap_i64]; omega
  clear hs
  by_cases hc : u = a
  · go_enter Yba.func40, Yba.ntmps40
    go_wp2
    go_quiet (fail)
    go_wp2
    go_end0
    exact ⟨rfl, _, rfl⟩
  · go_enter Yba.func40, Yba.ntmps40
    go_wp2
    go_quiet (fail)
    go_wp2
    go_end0
    exact ⟨rfl, _, rfl⟩

theorem end_any (w : World) (bl b : Nat) (a o : Int) (hne : b ≠ bl) (h24 : w.cell? ⟨b, 24, none⟩ = some (.int .i64 1)) (f24 : w.frozen? ⟨b, 24, none⟩ = false) (h70 : w.cell? ⟨bl, 70, none⟩ = some (.int .i64 a)) (h71 : w.cell? ⟨bl, 71, none⟩ = some (.int .i64 o)) (h75 : w.cell? ⟨bl, 75, none⟩ = some .nilFunc)
    (f70 : w.frozen? ⟨bl, 70, none⟩ = false) (f71 : w.frozen? ⟨bl, 71, none⟩ = false) (ha : -1000000 ≤ a ∧ a ≤ 1000000) (ho : -1000000 ≤ o ∧ o ≤ 1000000) :
    Calls Yba.prog 41 #[pb bl, pb b, .int .i64 3] w fun e w' => e = .returned (.tuple #[]) ∧ w' = ((w.setCell ⟨bl, 70, none⟩ (.int .i64 (a - 1))).setCell ⟨bl, 71, none⟩ (.int .i64 (o - 1))).setCell ⟨b, 24, none⟩ (.int .i64 3) := by
  have hw1 : IntKind.i64.wrap (a - 1) = a - 1 := by rw [IntKind.wrap_i64]; omega
  have hw2 : IntKind.i64.wrap (o - 1) = o - 1 := by rw [IntKind.wrap_i64]; omega
  have hne' : bl ≠ b := Ne.symm hne
  have hs := settle_any (((w.setCell ⟨bl, 70, none⟩ (.int .i64 (a - 1))).setCell ⟨bl, 71, none⟩ (.int .i64 (o - 1))).setCell ⟨b, 24, none⟩ (.int .i64 3)) bl (by
    rw [World.cell?_setCell_other _ _ _ _ (fun e => by injection e with e1 e2; exact hne e1), cell_set_other _ (by omega), cell_set_other _ (by omega)]; exact h75)
  clear ha ho
  go_enter Yba.func41, Yba.ntmps41
  go_wp2_with (go_at_call 46; refine hs.mono ?_; rintro _ _ ⟨rfl, rfl⟩)
  go_end0
  exact ⟨rfl, rfl⟩

/-- draw (44), where there is nothing to draw. -/
theorem draw_none (w : World) (bl : Nat) (k a : Int) (hk : 0 ≤ k ∧ k ≤ 1000) (ha : -1000000 ≤ a ∧ a ≤ 1000000) (h40 : w.cell? ⟨bl, 40, none⟩ = some (.int .i64 k)) (h45 : w.cell? ⟨bl, 45, none⟩ = some (.int .i64 0)) (h70 : w.cell? ⟨bl, 70, none⟩ = some (.int .i64 a)) (h71 : w.cell? ⟨bl, 71, none⟩ = some (.int .i64 a)) (h44 : w.cell? ⟨bl, 44, none⟩ = some (.int .i64 k)) :
    Calls Yba.prog 44 #[pb bl] w fun e w' => e = .returned (.tuple #[]) ∧ ∃ n, w' = w.drewN n := by
  have hw0 : IntKind.i64.wrap k = k := by rw [IntKind.wrap_i64]; omega
  have hw1 : IntKind.i64.wrap (k + a) = k + a := by rw [IntKind.wrap_i64]; omega
  have hw2 : IntKind.i64.wrap (k + a - a) = k := by rw [IntKind.wrap_i64]; omega
  have hw3 : k + a - a = k := by omega
  clear hk ha
  go_enter Yba.func44, Yba.ntmps44
  go_wp2
  go_quiet (fail)
  go_wp2
  refine bodyPost_ret (results_none rfl _ _ _) rfl ?_
  exact ⟨rfl, _, rfl⟩
end Go.Proofs.Ybulkchfs
