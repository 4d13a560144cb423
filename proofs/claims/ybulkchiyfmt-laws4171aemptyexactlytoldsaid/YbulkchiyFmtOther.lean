/- THE CONTRACT OF (*Walk).otherTransaction (function 6), as far as the law looks at it; FOR EVERY F (what fmt's text is, is nowhere asked). -/
import Derived.Test.YbulkchiyFmtFacts
import Derived.WalkKit
import Derived.WalkSpells
import Derived.BigQuiet
import Derived.Deep.QuietTactic
namespace Go.Proofs.YbulkchiyFmt
open Go.RowKit Go.Extern.Stop Go.Stop Go.Extern
set_option linter.unusedVariables false
set_option linter.unusedSimpArgs false
attribute [local go_sem] call13 fguard fmtA fmtAr fmtB fmtBr op9_115 op9_113

/-- The message that the law hands in. -/
abbrev msgY (tid : ByteArray) (nof : Bool) : Value :=
  .agg #[.string ⟨#[121]⟩, .string ⟨#[]⟩, .string ⟨#[]⟩, .string ⟨#[]⟩, .int .i64 0, .pointer none, .bool false, .string ⟨#[]⟩, .string tid, .slice none 0 0, .string ⟨#[]⟩, .pointer none, .string ⟨#[]⟩, .bool nof, .bool false]

theorem below_dN {B n : Nat} {a w : World} (h : Below B a w) : Below B a (w.drewN n) := ⟨h.os, h.tape, h.output, h.size, h.block⟩

theorem other_A1 (F : Interp) (bw bf g n cap : Nat) (tid : ByteArray) (w : World) (hF : F.answers w.tape) (nof : Bool)
    (h1 : w.cell? ⟨bw, 1, none⟩ = some (.pointer (some ⟨bf, 0, none⟩))) (h5 : w.cell? ⟨bf, 5, none⟩ = some (.bool false)) (h10 : w.cell? ⟨bw, 10, none⟩ = some (.slice (some ⟨g, 0, none⟩) n cap)) :
    Calls Ybaf.prog 6 #[.pointer (some ⟨bw, 0, none⟩), msgY tid nof] w fun e w' => e = .returned (.string ⟨#[]⟩) ∧ Below w.heap.size w w' := by
  have hF' := answers_open hF
  have s1 : bw < w.heap.size := World.block_lt_of_cell? w _ h1
  have s2 : bf < w.heap.size := World.block_lt_of_cell? w _ h5
  have s1' : bw < w.heap.size + 1 := by omega
  go_enter Ybaf.func6, Ybaf.ntmps6
  go_wp2
  go_ret
  exact ⟨rfl, by repeat (first | exact Below.refl _ _ | refine below_dN ?_ | refine Below.drew ?_ | refine Below.alloc ?_ (by first | exact Nat.le_refl _ | (simp; done) | (simp; omega)) _)⟩

theorem other_A2 (F : Interp) (bw bf g n cap : Nat) (tid : ByteArray) (w : World) (hF : F.answers w.tape)
    (h1 : w.cell? ⟨bw, 1, none⟩ = some (.pointer (some ⟨bf, 0, none⟩))) (h5 : w.cell? ⟨bf, 5, none⟩ = some (.bool true)) (h10 : w.cell? ⟨bw, 10, none⟩ = some (.slice (some ⟨g, 0, none⟩) n cap)) :
    Calls Ybaf.prog 6 #[.pointer (some ⟨bw, 0, none⟩), msgY tid true] w fun e w' => e = .returned (.string ⟨#[]⟩) ∧ Below w.heap.size w w' := by
  have hF' := answers_open hF
  have s1 : bw < w.heap.size := World.block_lt_of_cell? w _ h1
  have s2 : bf < w.heap.size := World.block_lt_of_cell? w _ h5
  have s1' : bw < w.heap.size + 1 := by omega
  go_enter Ybaf.func6, Ybaf.ntmps6
  go_wp2
  go_ret
  exact ⟨rfl, by repeat (first | exact Below.refl _ _ | refine below_dN ?_ | refine Below.drew ?_ | refine Below.alloc ?_ (by first | exact Nat.le_refl _ | (simp; done) | (simp; omega)) _)⟩

theorem other_B (F : Interp) (bw bf g n cap : Nat) (tid : ByteArray) (w : World) (hF : F.answers w.tape) (hn : ((n : Int) == 0) = true) (hp : decide (0 < n) = false) (hE : tid.toList.isEmpty = true)
    (h1 : w.cell? ⟨bw, 1, none⟩ = some (.pointer (some ⟨bf, 0, none⟩))) (h5 : w.cell? ⟨bf, 5, none⟩ = some (.bool true)) (h10 : w.cell? ⟨bw, 10, none⟩ = some (.slice (some ⟨g, 0, none⟩) n cap)) :
    Calls Ybaf.prog 6 #[.pointer (some ⟨bw, 0, none⟩), msgY tid false] w fun e w' => e = .returned (.string ⟨#[110, 111, 32, 116, 114, 97, 110, 115, 97, 99, 116, 105, 111, 110, 32, 73, 68]⟩) ∧ Below w.heap.size w w' := by
  have hF' := answers_open hF
  have s1 : bw < w.heap.size := World.block_lt_of_cell? w _ h1
  have s2 : bf < w.heap.size := World.block_lt_of_cell? w _ h5
  have s1' : bw < w.heap.size + 1 := by omega
  go_enter Ybaf.func6, Ybaf.ntmps6
  go_wp2
  go_ret
  exact ⟨rfl, by repeat (first | exact Below.refl _ _ | refine below_dN ?_ | refine Below.drew ?_ | refine Below.alloc ?_ (by first | exact Nat.le_refl _ | (simp; done) | (simp; omega)) _)⟩

theorem other_C (F : Interp) (bw bf g n cap : Nat) (tid : ByteArray) (w : World) (hF : F.answers w.tape) (hn : ((n : Int) == 0) = true) (hp : decide (0 < n) = false) (hE : tid.toList.isEmpty = false)
    (h1 : w.cell? ⟨bw, 1, none⟩ = some (.pointer (some ⟨bf, 0, none⟩))) (h5 : w.cell? ⟨bf, 5, none⟩ = some (.bool true)) (h10 : w.cell? ⟨bw, 10, none⟩ = some (.slice (some ⟨g, 0, none⟩) n cap)) :
    Calls Ybaf.prog 6 #[.pointer (some ⟨bw, 0, none⟩), msgY tid false] w fun e w' => e = .returned (.string ⟨#[]⟩) ∧ Below w.heap.size w w' := by
  have hF' := answers_open hF
  have s1 : bw < w.heap.size := World.block_lt_of_cell? w _ h1
  have s2 : bf < w.heap.size := World.block_lt_of_cell? w _ h5
  have s1' : bw < w.heap.size + 1 := by omega
  go_enter Ybaf.func6, Ybaf.ntmps6
  go_wp2
  go_quiet (fail)
  go_wp2
  go_ret
  exact ⟨rfl, by repeat (first | exact Below.refl _ _ | refine below_dN ?_ | refine Below.drew ?_ | refine Below.alloc ?_ (by first | exact Nat.le_refl _ | (simp; done) | (simp; omega)) _)⟩

theorem other_D1 (F : Interp) (bw bf g n cap : Nat) (tid : ByteArray) (w : World) (hF : F.answers w.tape) (s0 : ByteArray) (hn : ((n : Int) == 0) = false) (hp : decide (0 < n) = true) (hp' : (0 : Int) < (n : Int)) (hE : tid.toList.isEmpty = true) (hq : (tid.toList == s0.toList) = true)
    (h1 : w.cell? ⟨bw, 1, none⟩ = some (.pointer (some ⟨bf, 0, none⟩))) (h5 : w.cell? ⟨bf, 5, none⟩ = some (.bool true)) (h10 : w.cell? ⟨bw, 10, none⟩ = some (.slice (some ⟨g, 0, none⟩) n cap)) (h8 : w.cell? ⟨g, 8, none⟩ = some (.string s0)) :
    Calls Ybaf.prog 6 #[.pointer (some ⟨bw, 0, none⟩), msgY tid false] w fun e w' => e = .returned (.string ⟨#[]⟩) ∧ Below w.heap.size w w' := by
  have hF' := answers_open hF
  have s1 : bw < w.heap.size := World.block_lt_of_cell? w _ h1
  have s2 : bf < w.heap.size := World.block_lt_of_cell? w _ h5
  have s1' : bw < w.heap.size + 1 := by omega
  go_enter Ybaf.func6, Ybaf.ntmps6
  have s3 : g < w.heap.size := World.block_lt_of_cell? w _ h8
  have s3' : g < w.heap.size + 1 := by omega
  go_wp2
  go_quiet (fail)
  go_wp2
  go_ret
  exact ⟨rfl, by repeat (first | exact Below.refl _ _ | refine below_dN ?_ | refine Below.drew ?_ | refine Below.alloc ?_ (by first | exact Nat.le_refl _ | (simp; done) | (simp; omega)) _)⟩

theorem other_D2 (F : Interp) (bw bf g n cap : Nat) (tid : ByteArray) (w : World) (hF : F.answers w.tape) (s0 : ByteArray) (hn : ((n : Int) == 0) = false) (hp : decide (0 < n) = true) (hp' : (0 : Int) < (n : Int)) (hE : tid.toList.isEmpty = false) (hq : (tid.toList == s0.toList) = true)
    (h1 : w.cell? ⟨bw, 1, none⟩ = some (.pointer (some ⟨bf, 0, none⟩))) (h5 : w.cell? ⟨bf, 5, none⟩ = some (.bool true)) (h10 : w.cell? ⟨bw, 10, none⟩ = some (.slice (some ⟨g, 0, none⟩) n cap)) (h8 : w.cell? ⟨g, 8, none⟩ = some (.string s0)) :
    Calls Ybaf.prog 6 #[.pointer (some ⟨bw, 0, none⟩), msgY tid false] w fun e w' => e = .returned (.string ⟨#[]⟩) ∧ Below w.heap.size w w' := by
  have hF' := answers_open hF
  have s1 : bw < w.heap.size := World.block_lt_of_cell? w _ h1
  have s2 : bf < w.heap.size := World.block_lt_of_cell? w _ h5
  have s1' : bw < w.heap.size + 1 := by omega
  go_enter Ybaf.func6, Ybaf.ntmps6
  have s3 : g < w.heap.size := World.block_lt_of_cell? w _ h8
  have s3' : g < w.heap.size + 1 := by omega
  go_wp2
  go_quiet (fail)
  go_wp2
  go_ret
  exact ⟨rfl, by repeat (first | exact Below.refl _ _ | refine below_dN ?_ | refine Below.drew ?_ | refine Below.alloc ?_ (by first | exact Nat.le_refl _ | (simp; done) | (simp; omega)) _)⟩

theorem other_E1 (F : Interp) (bw bf g n cap : Nat) (tid : ByteArray) (w : World) (hF : F.answers w.tape) (s0 : ByteArray) (hn : ((n : Int) == 0) = false) (hp : decide (0 < n) = true) (hp' : (0 : Int) < (n : Int)) (hE : tid.toList.isEmpty = true) (hq : (tid.toList == s0.toList) = false)
    (h1 : w.cell? ⟨bw, 1, none⟩ = some (.pointer (some ⟨bf, 0, none⟩))) (h5 : w.cell? ⟨bf, 5, none⟩ = some (.bool true)) (h10 : w.cell? ⟨bw, 10, none⟩ = some (.slice (some ⟨g, 0, none⟩) n cap)) (h8 : w.cell? ⟨g, 8, none⟩ = some (.string s0)) :
    Calls Ybaf.prog 6 #[.pointer (some ⟨bw, 0, none⟩), msgY tid false] w fun e w' => (∃ r, e = .returned (.string r)) ∧ Below w.heap.size w w' := by
  have hF' := answers_open hF
  have s1 : bw < w.heap.size := World.block_lt_of_cell? w _ h1
  have s2 : bf < w.heap.size := World.block_lt_of_cell? w _ h5
  have s1' : bw < w.heap.size + 1 := by omega
  go_enter Ybaf.func6, Ybaf.ntmps6
  have s3 : g < w.heap.size := World.block_lt_of_cell? w _ h8
  have s3' : g < w.heap.size + 1 := by omega
  go_wp2
  go_quiet (fail)
  go_wp2
  go_ret
  exact ⟨⟨_, rfl⟩, by repeat (first | exact Below.refl _ _ | refine below_dN ?_ | refine Below.drew ?_ | refine Below.alloc ?_ (by first | exact Nat.le_refl _ | (simp; done) | (simp; omega)) _)⟩

theorem other_E2 (F : Interp) (bw bf g n cap : Nat) (tid : ByteArray) (w : World) (hF : F.answers w.tape) (s0 : ByteArray) (hn : ((n : Int) == 0) = false) (hp : decide (0 < n) = true) (hp' : (0 : Int) < (n : Int)) (hE : tid.toList.isEmpty = false) (hq : (tid.toList == s0.toList) = false)
    (h1 : w.cell? ⟨bw, 1, none⟩ = some (.pointer (some ⟨bf, 0, none⟩))) (h5 : w.cell? ⟨bf, 5, none⟩ = some (.bool true)) (h10 : w.cell? ⟨bw, 10, none⟩ = some (.slice (some ⟨g, 0, none⟩) n cap)) (h8 : w.cell? ⟨g, 8, none⟩ = some (.string s0)) :
    Calls Ybaf.prog 6 #[.pointer (some ⟨bw, 0, none⟩), msgY tid false] w fun e w' => (∃ r, e = .returned (.string r)) ∧ Below w.heap.size w w' := by
  have hF' := answers_open hF
  have s1 : bw < w.heap.size := World.block_lt_of_cell? w _ h1
  have s2 : bf < w.heap.size := World.block_lt_of_cell? w _ h5
  have s1' : bw < w.heap.size + 1 := by omega
  go_enter Ybaf.func6, Ybaf.ntmps6
  have s3 : g < w.heap.size := World.block_lt_of_cell? w _ h8
  have s3' : g < w.heap.size + 1 := by omega
  go_wp2
  go_quiet (fail)
  go_wp2
  go_ret
  exact ⟨⟨_, rfl⟩, by repeat (first | exact Below.refl _ _ | refine below_dN ?_ | refine Below.drew ?_ | refine Below.alloc ?_ (by first | exact Nat.le_refl _ | (simp; done) | (simp; omega)) _)⟩

end Go.Proofs.YbulkchiyFmt
