/-
  A proof of 'Rows.LawS4165CScriptSaid': the guide's frame of a law (as in the seat's shell for its fellow), at this function's number and types; the slice of slices is opened by Derived/Deep/Matrix; the walk is 'script_core' (YbulkchfsScript).
-/
import Derived.Test.YbulkchfsRows
import Derived.Test.YbulkchfsScript
import Derived.WalkKit
import Derived.ProofKit
import Derived.OpenShut
import Derived.ShutString
import Derived.ChangeOld
import Derived.Below
import Derived.Deep.Matrix
namespace Go.Proofs.Ybulkchfs.lawS4165CScript
open Go.Proofs.Ybulkchfs
open Go.ChangeShapes Go.WideShapes Go.ChangeAt Go.RowKit
set_option linter.unusedVariables false

theorem own : ownKnob Yba.prog.godebug = none := by kernel_rfl
theorem laidOut : laidOutB Yba.prog = true := by kernel_rfl
theorem cells5 : Yba.prog.cellsOf 5 = 1 := by kernel_rfl
theorem cells56 : Yba.prog.cellsOf 56 = 1 := by kernel_rfl

theorem byte_of {a : Int} (h : (Lit.int .u8 a).wf = true) : 0 ≤ a ∧ a ≤ 255 := by
  simp [Lit.wf, IntKind.min, IntKind.max, IntKind.bits, IntKind.signed] at h
  omega
theorem bytes_of {w : World} {a : Option Addr} {len cap : Nat} {zs : List Int} (hl : len ≤ cap) (hz : zs.length = cap) (hw : ∀ n ∈ zs, (Lit.int .u8 n).wf = true) (h0 : a = none → cap = 0) (hc : ∀ x, a = some x → ∀ i, i < cap → w.cell? (x.add i) = some (.int .u8 (zs.getD i 0))) : Bytes w a len (fun i => zs.getD i 0) := by
  refine ⟨fun hp => ?_, fun i hi => ?_⟩
  · cases a with
    | none => have := h0 rfl; omega
    | some x =>
      obtain ⟨b, o, spot⟩ := x
      have hc1 := hc _ rfl
      have hspot : spot = none := by simpa [Addr.add] using World.cell?_spot (hc1 0 (by omega))
      subst hspot
      have hc' : ∀ i, i < len → w.cell? ⟨b, o + i, none⟩ = some (.int .u8 (zs.getD i 0)) := fun i hi => by rw [← Go.WideShapes.add_plain]; exact hc1 i (by omega)
      exact ⟨b, o, rfl, World.block_lt_of_cell? w _ (hc' 0 hp), hc'⟩
  · have hi' : i < zs.length := by omega
    have := hw (zs.getD i 0) (by rw [List.getD_eq_getElem?_getD, List.getElem?_eq_getElem hi']; exact List.getElem_mem _)
    exact byte_of this

set_option maxRecDepth 100000 in
theorem walk (a0 a1 a2 a3 : Int) (a4 : Option Addr) (len4 cap4 : Nat) (B4 : Nat → Int) (a5 : Option Addr) (len5 cap5 : Nat) (A : Nat → Option Addr) (N C : Nat → Nat) (B : Nat → Nat → Int) (w : World) (w0 : (Lit.int .u8 a0).wf = true) (w1 : (Lit.int .u8 a1).wf = true) (w2 : (Lit.int .u8 a2).wf = true) (w3 : (Lit.int .u8 a3).wf = true) (w4 : Bytes w a4 len4 B4) (w5 : Grid w a5 len5 A N C B) :
    Calls Yba.prog 6 #[.int .u8 a0, .int .u8 a1, .int .u8 a2, .int .u8 a3, .slice a4 len4 cap4, .slice a5 len5 cap5] w fun e w' => e = .returned (.bool true) ∧ Below w.heap.size w w' := by
  by_cases hn4 : 512 < len4
  · have hd4 : decide ((512 : Int) < (len4 : Int)) = true := by simp; omega
    clear w4 w5
    go_enter Yba.func6, Yba.ntmps6
    go_wp2
    go_ret
    exact ⟨rfl, Below.refl _ _⟩
  · by_cases hn5 : 256 < len5
    · have hd4 : decide ((512 : Int) < (len4 : Int)) = false := by simp; omega
      have hd5 : decide ((256 : Int) < (len5 : Int)) = true := by simp; omega
      clear w4 w5
      go_enter Yba.func6, Yba.ntmps6
      go_wp2
      go_ret
      exact ⟨rfl, Below.refl _ _⟩
    · exact script_core w a0 a1 a2 a3 a4 len4 cap4 B4 a5 len5 cap5 A N C B w4 w5 (by omega) (by omega) (byte_of w0) (byte_of w1) (byte_of w2) (byte_of w3)

set_option maxRecDepth 100000 in
theorem lifted (os : Os) (started : os.Started) (H : Type) (enc : TypeId × Value → H) :
    ReturnsInHanded {} Yba.checked os 6 .any (Rows.lawS4165CScriptSpec.pre6 enc Yba.prog Yba.f6 Rows.lawS4165CScriptRow.domain false) (Rows.lawS4165CScriptSpec.post enc Yba.prog Yba.f6 false true false false) := by
  refine returnsInHanded_of_change (C := Yba.checked) own started (by kernel_rfl) Yba.func6
    (ChangeSpec.witness6 (enc := enc) (C := Yba.checked) false ⟨#[], #[.int .u8 0, .int .u8 0, .int .u8 0, .int .u8 0, .slice none 0 0, .slice none 0 0], []⟩ 8 (by kernel_rfl) (by kernel_rfl) (by kernel_rfl) (by kernel_rfl)) ?_
  intro W base args ds gs before hval0 hW hcnd _
  have hval : ∀ (j : Nat) t v, Yba.f6.params[j]? = some t → args[j]? = some v → Value.okWide Yba.prog W .any base t v := hval0
  have hW' := hW
  obtain ⟨p, q, hA0, hV, rfl, hfz, hnd⟩ := hW
  have hA : DataW.TrodAll enc Yba.prog W 0 (fun _ => true) true Yba.f6.params.toList args.toList ds p := hA0
  rw [Yba.params6] at hA hval
  obtain ⟨v0, vs0, d0, ds0, p0, q0, hargs, rfl, rfl, h0, r0⟩ := trodAll_cons hA
  obtain ⟨v1, vs1, d1, ds1, p1, q1, rfl, rfl, rfl, h1, r1⟩ := trodAll_cons r0
  obtain ⟨v2, vs2, d2, ds2, p2, q2, rfl, rfl, rfl, h2, r2⟩ := trodAll_cons r1
  obtain ⟨v3, vs3, d3, ds3, p3, q3, rfl, rfl, rfl, h3, r3⟩ := trodAll_cons r2
  obtain ⟨v4, vs4, d4, ds4, p4, q4, rfl, rfl, rfl, h4, r4⟩ := trodAll_cons r3
  obtain ⟨v5, vs5, d5, ds5, p5, q5, rfl, rfl, rfl, h5, r5⟩ := trodAll_cons r4
  obtain ⟨rfl, rfl, rfl⟩ := trodAll_nil r5
  obtain rfl : args = #[v0, v1, v2, v3, v4, v5] := by cases args; simp_all
  obtain ⟨rfl, rfl⟩ := trodVars_none hV
  obtain ⟨a0, rfl, rfl, rfl, w0⟩ := open_int Yba.underlying5 (hval 0 5 v0 rfl rfl) h0
  obtain ⟨a1, rfl, rfl, rfl, w1⟩ := open_int Yba.underlying5 (hval 1 5 v1 rfl rfl) h1
  obtain ⟨a2, rfl, rfl, rfl, w2⟩ := open_int Yba.underlying5 (hval 2 5 v2 rfl rfl) h2
  obtain ⟨a3, rfl, rfl, rfl, w3⟩ := open_int Yba.underlying5 (hval 3 5 v3 rfl rfl) h3
  obtain ⟨a4, len4, cap4, rfl⟩ := okWide_slice Yba.underlying56 (hval 4 56 v4 rfl rfl)
  have k4 := h4
  have lt4 : ∀ x ∈ p4, x.block < W.heap.size := by obtain ⟨m, hm⟩ := k4; exact DataW.trod_lt m _ _ _ hm
  obtain ⟨B4, w4⟩ : ∃ B4, Bytes W a4 len4 B4 := by
    obtain ⟨fuel, hf⟩ := h4
    rcases open_ints Yba.underlying56 Yba.underlying5 (by kernel_rfl) hf with ⟨hcs, _⟩ | ⟨x, l, c, zs, hcs, _, hl, hm, hz, _, hcell, hwz⟩
    · simp [Value.cells] at hcs
      obtain ⟨rfl, rfl, rfl⟩ := hcs
      exact ⟨fun _ => 0, ⟨fun h => absurd h (by omega), fun i hi => absurd hi (by omega)⟩⟩
    · simp [Value.cells] at hcs
      obtain ⟨rfl, rfl, rfl⟩ := hcs
      have hz' : zs.length = cap4 := by simpa using hz
      refine ⟨_, bytes_of hl hz' hwz (fun h => by cases h) (fun x' hx' i hi => ?_)⟩
      cases hx'
      exact hcell i (by omega)
  obtain ⟨a5, len5, cap5, rfl⟩ := okWide_slice Yba.underlying93 (hval 5 93 v5 rfl rfl)
  have k5 := h5
  have lt5 : ∀ x ∈ p5, x.block < W.heap.size := by obtain ⟨m, hm⟩ := k5; exact DataW.trod_lt m _ _ _ hm
  obtain ⟨A, N, C, B, w5⟩ : ∃ A N C B, Grid W a5 len5 A N C B := by
    obtain ⟨fuel, hf⟩ := h5
    rcases Go.Deep.open_int_rows Yba.underlying93 Yba.underlying56 Yba.underlying5 cells56 cells5 hf with ⟨hcs, _⟩ | ⟨x, l, c, A, L, C, Z, hcs, _, hl, hm, _, hrows⟩
    · simp [Value.cells] at hcs
      obtain ⟨rfl, rfl, rfl⟩ := hcs
      exact ⟨fun _ => none, fun _ => 0, fun _ => 0, fun _ _ => 0, ⟨fun h => absurd h (by omega), fun i hi => absurd hi (by omega)⟩⟩
    · simp [Value.cells] at hcs
      obtain ⟨rfl, rfl, rfl⟩ := hcs
      refine ⟨A, L, C, fun i j => (Z i).getD j 0, ⟨fun hp => ?_, fun i hi => ?_⟩⟩
      · obtain ⟨b, o, spot⟩ := x
        have hspot : spot = none := by simpa [Addr.add] using World.cell?_spot (hrows 0 (by omega)).1
        subst hspot
        have hc' : ∀ i, i < len5 → W.cell? ⟨b, o + i, none⟩ = some (.slice (A i) (L i) (C i)) := fun i hi => by rw [← Go.WideShapes.add_plain]; exact (hrows i (by omega)).1
        exact ⟨b, o, rfl, World.block_lt_of_cell? W _ (hc' 0 hp), hc'⟩
      · obtain ⟨_, e2, _, e4, e5, e6, e7⟩ := hrows i (by omega)
        exact bytes_of e2 e4 e5 e6 (fun x' hx' => (e7 x' hx').2)
  clear hA0 hval0
  refine (walk a0 a1 a2 a3 a4 len4 cap4 B4 a5 len5 cap5 A N C B W w0 w1 w2 w3 w4 w5).mono fun e W' ⟨he, bel⟩ => ?_
  subst he
  exact ⟨_, rfl, _, _, _, [], _, [], hW', trodAll_mk1 (shut_bool Yba.underlying4 _), (trodAll_cons_mk (shut_int Yba.underlying5 w0) (trodAll_cons_mk (shut_int Yba.underlying5 w1) (trodAll_cons_mk (shut_int Yba.underlying5 w2) (trodAll_cons_mk (shut_int Yba.underlying5 w3) (trodAll_cons_mk (Below.trod laidOut (by kernel_rfl) (of_decide_eq_true (by kernel_rfl)) k4 bel lt4) (trodAll_cons_mk (Below.trod laidOut (by kernel_rfl) (of_decide_eq_true (by kernel_rfl)) k5 bel lt5) trodAll_mk0)))))), rfl, bel.frame _, fun h => by cases h⟩

theorem over : Rows.lawS4165CScriptRow.holds Yba.pinned (OpenSpec.ofChange Rows.lawS4165CScriptSpec) :=
  OpenClaim.holds_of_wide 6 Yba.f6 rfl rfl rfl rfl rfl rfl rfl ⟨rfl, rfl, rfl, rfl, rfl⟩ rfl rfl rfl rfl rfl (by kernel_rfl) Yba.func6 (by kernel_rfl)
    (of_decide_eq_true (by kernel_rfl)) (by unfold Func.isWrapper; first | (rw [if_pos (by decide +kernel)]; kernel_rfl) | (rw [if_neg (by decide +kernel)]; exact ⟨rfl, rfl⟩))
    (fun os started H enc _ => lifted os started H enc)

/-- THE STATEMENT -/
theorem proved : Rows.LawS4165CScriptSaid := over
end Go.Proofs.Ybulkchfs.lawS4165CScript
