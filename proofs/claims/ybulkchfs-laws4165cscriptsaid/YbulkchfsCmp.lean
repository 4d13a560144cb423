/- CONTRACTS OF bytes.Compare (53) AND keyspace.Cmp (50). -/
import Derived.Test.YbulkchfsIds
import Derived.Lib.Bytealg
import Derived.Lib.BytesEntry
namespace Go.Proofs.Ybulkchfs
open Go.RowKit
set_option linter.unusedVariables false
set_option linter.unusedSimpArgs false
attribute [local go_sem ↓] ldI_eq ldC_eq stI_eq stC_eq bxI_eq bxC_eq nwI_eq nwC_eq
attribute [local go_sem] load_id load_contact store_id store_contact box_id box_contact new_id new_contact
attribute [local go_sem] arr?_drew arr?_drewN arr?_alloc_past arr?_alloc_at arr?_setCell arr?_setA arr?_setA_same can?_drew can?_drewN can?_alloc_past can?_alloc_at can?_setCell can?_setA cell_setA frozen_setA size_setA agg_aL agg_cL set_aL lset_aL size_aL size_cL length_aL length_cL

/-- Bytes. -/
def Byt (A : Nat → Int) : Prop := ∀ i, 0 ≤ A i ∧ A i ≤ 255

theorem u8_lt {a b : Int} (ha : 0 ≤ a ∧ a ≤ 255) (hb : 0 ≤ b ∧ b ≤ 255) : (UInt8.ofNat a.toNat < UInt8.ofNat b.toNat) ↔ a < b := by
  rw [UInt8.lt_iff_toNat_lt, UInt8.toNat_ofNat', UInt8.toNat_ofNat', Nat.mod_eq_of_lt (by omega), Nat.mod_eq_of_lt (by omega)]
  omega

theorem compare_eq (A B : Nat → Int) (hA : Byt A) (hB : Byt B) : ∀ n k, Lib.compareBytes (Lib.bytesOf ((List.range' k n).map A)) (Lib.bytesOf ((List.range' k n).map B)) = cmpFrom A B n k
  | 0, _ => rfl
  | n + 1, k => by
    rw [List.range'_succ]
    simp only [Lib.bytesOf, List.map_cons, Lib.compareBytes, cmpFrom]
    have h1 := u8_lt (hA k) (hB k)
    have h2 := u8_lt (hB k) (hA k)
    simp only [h1, h2]
    have ih := compare_eq A B hA hB n (k + 1)
    simp only [Lib.bytesOf] at ih
    rw [ih]

theorem run_compare (w : World) (a b : Nat) (ca cb : Nat) (A B : Nat → Int) (hA : Byt A) (hB : Byt B) (ha : arr? w 20 a 0 = some (aL A)) (hb : arr? w 20 b 0 = some (aL B)) :
    (Extern.BytealgCompare.compare #[.slice (some ⟨a, 0, none⟩) 20 ca, .slice (some ⟨b, 0, none⟩) 20 cb]).run Yba.prog w = .ok (.int .i64 (cmpF A B)) w := by
  have key : ∀ (b : Nat) (F : Nat → Int), arr? w 20 b 0 = some (aL F) → (Extern.Bytes.loadBytes ⟨b, 0, none⟩ 20 .empty).run Yba.prog w = .ok ⟨(ByteArray.empty).data ++ (Lib.bytesOf ((List.range' 0 20).map F)).toArray⟩ w := by
    intro b F h
    obtain ⟨hl, hr⟩ := of_arr? h
    have := Lib.run_loadBytesX (P := Yba.prog) w ((List.range' 0 20).map F) ⟨b, 0, none⟩ .empty (fun j x hj => by
      have hj20 : j < 20 := by have := (List.getElem?_eq_some_iff.1 hj).1; simpa using this
      have e : (⟨b, 0, none⟩ : Addr).add j = ⟨b, 0 + j, none⟩ := by unfold Addr.add; split <;> simp_all
      rw [e]
      refine hr j _ ?_
      rw [aL_at F hj20]
      simp [hj20] at hj
      rw [hj])
    simpa using this
  change Sem.run Yba.prog (do pure (goInt (Extern.BytealgCompare.cmp (← Extern.Bytes.bytesOf (.slice (some ⟨a, 0, none⟩) 20 ca)) (← Extern.Bytes.bytesOf (.slice (some ⟨b, 0, none⟩) 20 cb))))) w = _
  simp only [Extern.Bytes.bytesOf, Sem.run_bind, Sem.run_pure, Result.andThen, key a A ha, key b B hb]
  rw [Lib.cmp_eq]
  have : ∀ F : Nat → Int, (ByteArray.mk ((ByteArray.empty).data ++ (Lib.bytesOf ((List.range' 0 20).map F)).toArray)).data.toList = Lib.bytesOf ((List.range' 0 20).map F) := fun F => by simp
  rw [this, this, compare_eq A B hA hB 20 0]
  rfl

theorem bcmp_any (w : World) (a b : Nat) (ca cb : Nat) (A B : Nat → Int) (hA : Byt A) (hB : Byt B) (ha : arr? w 20 a 0 = some (aL A)) (hb : arr? w 20 b 0 = some (aL B)) :
    Calls Yba.prog 53 #[.slice (some ⟨a, 0, none⟩) 20 ca, .slice (some ⟨b, 0, none⟩) 20 cb] w fun e w' => e = .returned (.int .i64 (cmpF A B)) ∧ w' = w := by
  have hr : (callFunc 56 #[.slice (some ⟨a, 0, none⟩) 20 ca, .slice (some ⟨b, 0, none⟩) 20 cb]).run Yba.prog w = .ok (.value (.int .i64 (cmpF A B))) w := by
    rw [run_callFunc_extern Yba.func56 (by kernel_rfl) (by kernel_rfl) (by kernel_rfl) (e := Extern.BytealgCompare.compare) (by kernel_rfl), run_compare w a b ca cb A B hA hB ha hb]
    rfl
  go_enter Yba.func53, Yba.ntmps53
  go_wp2
  go_ret
  exact ⟨rfl, rfl⟩

theorem cmp_any (A B : Nat → Int) (hA : Byt A) (hB : Byt B) (w : World) : Calls Yba.prog 50 #[aV A, aV B] w fun e w' => e = .returned (.int .i64 (cmpF A B)) ∧ Below w.heap.size w w' := by
  obtain ⟨W, hW⟩ : ∃ W, W = (w.alloc (.cells (aL A).toArray 62)).alloc (.cells (aL B).toArray 62) := ⟨_, rfl⟩
  have ha : arr? W 20 w.heap.size 0 = some (aL A) := by rw [hW, arr?_alloc_past _ _ _ _ _ (by simp), arr?_alloc_at _ _ _ _ _ rfl (length_aL _)]
  have hb : arr? W 20 (w.heap.size + 1) 0 = some (aL B) := by rw [hW, arr?_alloc_at _ _ _ _ _ (by simp) (length_aL _)]
  have HW : Hid (Below w.heap.size w W) := by
    rw [hW]
    exact ((Below.refl _ w).alloc (Nat.le_refl _) _).alloc (by simp) _
  go_enter Yba.func50, Yba.ntmps50
  go_wp2
  rw [← hW]
  clear hW
  go_quiet ((go_at_call 53; exact Calls.quiet_of_same (bcmp_any _ _ _ _ _ A B hA hB ha hb)))
  go_wp2
  go_ret
  exact ⟨rfl, HW.out.trans ⟨rfl, rfl, rfl, Nat.le_refl _, fun _ _ => rfl⟩⟩
end Go.Proofs.Ybulkchfs
