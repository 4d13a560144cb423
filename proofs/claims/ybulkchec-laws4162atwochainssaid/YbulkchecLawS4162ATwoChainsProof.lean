/-
  A proof of 'Rows.LawS4162ATwoChainsSaid' ('example.com/lockward/lockward.LawS4162ATwoChains'): the frame after the guide's template (a slice of bools is opened by 'open_bools'), the walk from YbulkchecTwoWalk.lean.
-/
import Derived.Test.YbulkchecRows
import Derived.WalkKit
import Derived.ProofKit
import Derived.OpenShut
import Derived.ShutString
import Derived.ChangeOld
import Derived.Below
import Derived.Deep.Grids
import Derived.Test.YbulkchecTwoWalk
namespace Go.Proofs.Ybulkchec.lawS4162ATwoChains
open Go.ChangeShapes Go.WideShapes Go.ChangeAt Go.RowKit
open Go.ChangeMaps (open_string shut_string)
open Go.Proofs.Ybulkchec
set_option linter.unusedVariables false

theorem own : ownKnob Yba.prog.godebug = none := by kernel_rfl
theorem laidOut : laidOutB Yba.prog = true := by kernel_rfl

/-- What the walk is told of the slice of bools: where it has an element it leads to a row of cells. -/
def IsRowB (w : World) (a : Option Addr) (len : Nat) (B : Nat → Bool) : Prop :=
  0 < len → ∃ b off, a = some ⟨b, off, none⟩ ∧ b < w.heap.size ∧ ∀ i, i < len → w.cell? ⟨b, off + i, none⟩ = some (.bool (B i))

theorem walk (a0 : Int) (a1 : Option Addr) (len1 cap1 : Nat) (B : Nat → Bool) (w : World) (w0 : (Lit.int .u16 a0).wf = true) (w1 : IsRowB w a1 len1 B) :
    Calls Yba.prog 4 #[.int .u16 a0, .slice a1 len1 cap1] w fun e w' => e = .returned (.bool true) ∧ Below w.heap.size w w' := by
  have hs : 0 ≤ a0 ∧ a0 ≤ 65535 := bounds_u16 w0
  obtain ⟨m, rfl⟩ := Int.eq_ofNat_of_zero_le hs.1
  by_cases hm : 1024 < m
  · have hgt : decide ((1024 : Int) < (m : Int)) = true := by simp; omega
    go_enter Yba.func4, Yba.ntmps4
    go_wp2
    go_ret
    exact ⟨rfl, Below.refl _ _⟩
  · by_cases hbig : 1024 < len1
    · have hgm : decide ((1024 : Int) < (m : Int)) = false := by simp; omega
      have hgt : decide ((1024 : Int) < (len1 : Int)) = true := by simp; omega
      go_enter Yba.func4, Yba.ntmps4
      go_wp2
      go_ret
      exact ⟨rfl, Below.refl _ _⟩
    · exact two_core m (by omega) a1 len1 cap1 B w (by omega) w1

/-! ### THE ROW's STEP -/
set_option maxRecDepth 100000 in
theorem lifted (os : Os) (started : os.Started) (H : Type) (enc : TypeId × Value → H) :
    ReturnsInHanded {} Yba.checked os 4 .any (Rows.lawS4162ATwoChainsSpec.pre6 enc Yba.prog Yba.f4 Rows.lawS4162ATwoChainsRow.domain false) (Rows.lawS4162ATwoChainsSpec.post enc Yba.prog Yba.f4 false true false false) := by
  refine returnsInHanded_of_change (C := Yba.checked) own started (by kernel_rfl) Yba.func4
    (ChangeSpec.witness6 (enc := enc) (C := Yba.checked) false ⟨#[], #[.int .u16 0, .slice none 0 0], []⟩ 8 (by kernel_rfl) (by kernel_rfl) (by kernel_rfl) (by kernel_rfl)) ?_
  intro W base args ds gs before hval0 hW hcnd _
  have hval : ∀ (j : Nat) t v, Yba.f4.params[j]? = some t → args[j]? = some v → Value.okWide Yba.prog W .any base t v := hval0
  have hW' := hW
  obtain ⟨p, q, hA0, hV, rfl, hfz, hnd⟩ := hW
  have hA : DataW.TrodAll enc Yba.prog W 0 (fun _ => true) true Yba.f4.params.toList args.toList ds p := hA0
  rw [Yba.params4] at hA hval
  obtain ⟨v0, vs0, d0, ds0, p0, q0, hargs, rfl, rfl, h0, r0⟩ := trodAll_cons hA
  obtain ⟨v1, vs1, d1, ds1, p1, q1, rfl, rfl, rfl, h1, r1⟩ := trodAll_cons r0
  obtain ⟨rfl, rfl, rfl⟩ := trodAll_nil r1
  obtain rfl : args = #[v0, v1] := by cases args; simp_all
  obtain ⟨rfl, rfl⟩ := trodVars_none hV
  obtain ⟨a0, rfl, rfl, rfl, w0⟩ := open_int Yba.underlying49 (hval 0 49 v0 rfl rfl) h0
  obtain ⟨a1, len1, cap1, rfl⟩ := okWide_slice Yba.underlying50 (hval 1 50 v1 rfl rfl)
  have k1 := h1
  have lt1 : ∀ x ∈ p1, x.block < W.heap.size := by obtain ⟨m, hm⟩ := k1; exact DataW.trod_lt m _ _ _ hm
  obtain ⟨B, w1⟩ : ∃ B, IsRowB W a1 len1 B := by
    obtain ⟨fuel, hf⟩ := h1
    rcases Go.Deep.open_bools Yba.underlying50 Yba.underlying4 (by kernel_rfl) hf with ⟨hcs, _⟩ | ⟨x, l, c, B, hcs, _, hl, hm, _, hcell⟩
    · simp [Value.cells] at hcs
      obtain ⟨rfl, rfl, rfl⟩ := hcs
      exact ⟨fun _ => false, fun h => absurd h (by omega)⟩
    · simp [Value.cells] at hcs
      obtain ⟨rfl, rfl, rfl⟩ := hcs
      refine ⟨B, fun hp => ?_⟩
      obtain ⟨b, off, spot⟩ := x
      have hspot : spot = none := by simpa [Addr.add] using World.cell?_spot (hcell 0 (by omega))
      subst hspot
      have hc : ∀ i, i < len1 → W.cell? ⟨b, off + i, none⟩ = some (.bool (B i)) := fun i hi => by rw [← Go.WideShapes.add_plain]; exact hcell i (by omega)
      exact ⟨b, off, rfl, World.block_lt_of_cell? W _ (hc 0 hp), hc⟩
  clear hA0 hval0
  refine (walk a0 a1 len1 cap1 B W w0 w1).mono fun e W' ⟨he, bel⟩ => ?_
  subst he
  exact ⟨_, rfl, _, _, _, [], _, [], hW', trodAll_mk1 (shut_bool Yba.underlying4 _), (trodAll_cons_mk (shut_int Yba.underlying49 w0) (trodAll_cons_mk (Below.trod laidOut (by kernel_rfl) (of_decide_eq_true (by kernel_rfl)) k1 bel lt1) trodAll_mk0)), rfl, bel.frame _, fun h => by cases h⟩

theorem over : Rows.lawS4162ATwoChainsRow.holds Yba.pinned (OpenSpec.ofChange Rows.lawS4162ATwoChainsSpec) :=
  OpenClaim.holds_of_wide 4 Yba.f4 rfl rfl rfl rfl rfl rfl rfl ⟨rfl, rfl, rfl, rfl, rfl⟩ rfl rfl rfl rfl rfl (by kernel_rfl) Yba.func4 (by kernel_rfl)
    (of_decide_eq_true (by kernel_rfl)) (by unfold Func.isWrapper; first | (rw [if_pos (by decide +kernel)]; kernel_rfl) | (rw [if_neg (by decide +kernel)]; exact ⟨rfl, rfl⟩))
    (fun os started H enc _ => lifted os started H enc)

/-- THE STATEMENT -/
theorem proved : Rows.LawS4162ATwoChainsSaid := over
end Go.Proofs.Ybulkchec.lawS4162ATwoChains
