/- THE WALK OF LawS4162APushRemove (function 5), for sel even and for sel odd. -/
import Derived.Test.YbulkchecExtra
import Derived.Test.YbulkchecWalk
namespace Go.Proofs.Ybulkchec
open Go.RowKit
set_option linter.unusedVariables false
set_option linter.unusedSimpArgs false
theorem info26' : (Yba.prog.info? 26).map (fun i => (i.zero, i.size, i.bytes)) = some (some (.pointer none), 1, 8) := by kernel_rfl

set_option maxHeartbeats 400000 in
theorem pr_even (sel : Int) (hs : 0 ≤ sel ∧ sel ≤ 255) (hsel : sel % 2 = 0) (ad : Option Addr) (n cap : Nat) (Z : Nat → Int) (w : World) (hn : n ≤ 1024)
    (HC : Hid (0 < n → ∃ b off, ad = some ⟨b, off, none⟩ ∧ b < w.heap.size ∧ ∀ i, i < n → w.cell? ⟨b, off + i, none⟩ = some (.int .u64 (Z i)))) :
    Calls Yba.prog 5 #[.slice ad n cap, .int .u8 sel] w fun e w' => e = .returned (.bool true) ∧ Below w.heap.size w w' := by
  have hmk := run_make_row' (P := Yba.prog) 25 26 (.pointer none) 8 Yba.underlying25 info26' rfl .i64 .i64 n (by omega) (by omega)
  obtain ⟨hs0, hs1⟩ := hs
  have hgt : decide ((1024 : Int) < (n : Int)) = false := by simp; omega
  have hsame := neq_same
  have hzero := links_zero
  go_enter Yba.func5, Yba.ntmps5
  go_wp2
  rw [hsel]
  clear hmk
  go_loopw [9] (fun i wr => ∃ (k : Nat) (L : List Nat), k ≤ n ∧ i = .int .i64 k ∧ Ord w w.heap.size 0 n k Z L wr) (fun i _ => n - (intOf i).toNat)
  case atStart => exact ⟨0, [], Nat.zero_le _, rfl, ord_start w 0 n Z⟩
  case round =>
    obtain ⟨k, L, hk, rfl, ho⟩ := hrel
    by_cases hlt : k < n
    · obtain ⟨b, off, rfl, hb, hz⟩ := HC.out (by omega)
      have hzk := (ho.below.cell (p := ⟨b, off + k, none⟩) hb).trans (hz k hlt)
      clear hz
      have hNs : w.heap.size < wr.heap.size := by have := ho.size; omega
      have hNl : w.heap.size + 1 < wr.heap.size := by have := ho.size; omega
      have hak := ho.arr.cell hlt
      simp only [Nat.lt_irrefl, if_false] at hak
      have hfk := ho.arr.frozen k
      have HO : Hid (Ord w w.heap.size 0 n k Z L wr) := ho
      clear ho
      go_wp2_with fail
      refine (ord_push (.inl rfl) 0 rfl HO.out hlt).mono ?_
      rintro e w1 ⟨rfl, ho⟩
      have HO1 : Hid (Ord w w.heap.size 0 n (k + 1) Z (L ++ [wr.heap.size]) w1) := ho
      clear ho HO hak hfk hzk hNs hNl
      go_wp2
      go_roundw
      case rel => exact ⟨k + 1, _, by omega, by go_num, HO1.out⟩
      case measure => simp [intOf]; omega
    · obtain rfl : k = n := by omega
      have HO : Hid (Ord w w.heap.size 0 k k Z L wr) := ho
      clear ho HC
      go_wp2_with fail
      refine (extra_push (.inl rfl) 0 rfl 7 HO.out).mono ?_
      rintro e w1 ⟨rfl, ha⟩
      have hl := ha.linked.last
      have hf := ha.linked.first
      have hx := ha.linked.prev k (by simp [ha.len])
      have hy := ha.linked.next k (by simp [ha.len])
      have hlen : (L ++ [wr.heap.size]).length = k + 1 := by simp [ha.len]
      have e1 : (L ++ [wr.heap.size]).getD k 0 = wr.heap.size := by rw [← ha.len, getD_snoc_eq]
      rw [e1] at hx hy
      rw [hlen, if_neg (by omega)] at hy
      rw [hlen, if_pos (by omega), Nat.add_sub_cancel, e1] at hl
      rw [hlen, if_pos (by omega)] at hf
      simp only [Nat.mul_zero, Nat.add_zero] at hx hy
      by_cases hk0 : 0 < k
      · rw [if_pos hk0, getD_snoc_lt (by rw [ha.len]; omega)] at hx
        have harr := ha.arr.cell (i := k - 1) (by omega)
        have hnx := ha.linked.next (k - 1) (by omega)
        rw [getD_snoc_lt (by rw [ha.len]; omega), if_pos (by omega), show k - 1 + 1 = k from by omega, e1] at hnx
        simp only [Nat.mul_zero, Nat.add_zero] at hnx
        have HA : Hid (Aft w w.heap.size 0 k L wr.heap.size w1) := ha
        clear ha e1 hlen HO hf
        obtain ⟨bq, hbq⟩ : ∃ bq, bq = L.getD (k - 1) 0 := ⟨_, rfl⟩
        rw [← hbq] at hx harr hnx
        clear hbq
        have hpos : decide ((0 : Int) < (k : Int)) = true := by simp; omega
        have hkz : ((k : Int) == 0) = false := by simp; omega
        go_wp2
        go_quiet (fail)
        go_wp2_with fail
        refine (extra_remove (.inl rfl) 0 rfl (HA.out.drewN _)).mono ?_
        rintro e w2 ⟨rfl, hl2, hx2, hy2, har2, hb2⟩
        have HL : Hid (Linked w2 0 (w.heap.size + 1) L) := hl2
        have HR : Hid (w2.rowIs w.heap.size 26 k (fun i => pb (L.getD i 0))) := har2
        have HB : Hid (Below w.heap.size w w2) := hb2
        simp only [Nat.mul_zero, Nat.add_zero] at hx2 hy2
        clear hl2 har2 hb2 hx hy harr hnx hl
        go_wp2_with fail
        refine (walk_any 0 (w.heap.size + 1) w.heap.size k k L _ (.inl rfl) HA.out.len.symm hn HL.out (fun i hi => HR.out.cell hi)).mono ?_
        rintro e w3 ⟨rfl, m1, rfl⟩
        go_wp2
        go_ret
        exact ⟨rfl, HB.out.trans ⟨rfl, rfl, rfl, Nat.le_refl _, fun _ _ => rfl⟩⟩
      · rw [if_neg hk0] at hx
        rw [show (L ++ [wr.heap.size]).getD 0 0 = wr.heap.size from (congrArg (fun t => (L ++ [wr.heap.size]).getD t 0) (by omega : (0 : Nat) = k)).trans e1] at hf
        have HA : Hid (Aft w w.heap.size 0 k L wr.heap.size w1) := ha
        clear ha e1 hlen HO
        have hpos : decide ((0 : Int) < (k : Int)) = false := by simp; omega
        have hkz : ((k : Int) == 0) = true := by simp; omega
        go_wp2
        go_quiet (fail)
        go_wp2_with fail
        refine (extra_remove (.inl rfl) 0 rfl (HA.out.drewN _)).mono ?_
        rintro e w2 ⟨rfl, hl2, hx2, hy2, har2, hb2⟩
        have HL : Hid (Linked w2 0 (w.heap.size + 1) L) := hl2
        have HR : Hid (w2.rowIs w.heap.size 26 k (fun i => pb (L.getD i 0))) := har2
        have HB : Hid (Below w.heap.size w w2) := hb2
        simp only [Nat.mul_zero, Nat.add_zero] at hx2 hy2
        clear hl2 har2 hb2 hx hy hl hf
        go_wp2_with fail
        refine (walk_any 0 (w.heap.size + 1) w.heap.size k k L _ (.inl rfl) HA.out.len.symm hn HL.out (fun i hi => HR.out.cell hi)).mono ?_
        rintro e w3 ⟨rfl, m1, rfl⟩
        go_wp2
        go_ret
        exact ⟨rfl, HB.out.trans ⟨rfl, rfl, rfl, Nat.le_refl _, fun _ _ => rfl⟩⟩
set_option maxHeartbeats 400000 in
theorem pr_odd (sel : Int) (hs : 0 ≤ sel ∧ sel ≤ 255) (hsel : sel % 2 = 1) (ad : Option Addr) (n cap : Nat) (Z : Nat → Int) (w : World) (hn : n ≤ 1024)
    (HC : Hid (0 < n → ∃ b off, ad = some ⟨b, off, none⟩ ∧ b < w.heap.size ∧ ∀ i, i < n → w.cell? ⟨b, off + i, none⟩ = some (.int .u64 (Z i)))) :
    Calls Yba.prog 5 #[.slice ad n cap, .int .u8 sel] w fun e w' => e = .returned (.bool true) ∧ Below w.heap.size w w' := by
  have hmk := run_make_row' (P := Yba.prog) 25 26 (.pointer none) 8 Yba.underlying25 info26' rfl .i64 .i64 n (by omega) (by omega)
  obtain ⟨hs0, hs1⟩ := hs
  have hgt : decide ((1024 : Int) < (n : Int)) = false := by simp; omega
  have hsame := neq_same
  have hzero := links_zero
  go_enter Yba.func5, Yba.ntmps5
  go_wp2
  rw [hsel]
  clear hmk
  go_loopw [9] (fun i wr => ∃ (k : Nat) (L : List Nat), k ≤ n ∧ i = .int .i64 k ∧ Ord w w.heap.size 1 n k Z L wr) (fun i _ => n - (intOf i).toNat)
  case atStart => exact ⟨0, [], Nat.zero_le _, rfl, ord_start w 1 n Z⟩
  case round =>
    obtain ⟨k, L, hk, rfl, ho⟩ := hrel
    by_cases hlt : k < n
    · obtain ⟨b, off, rfl, hb, hz⟩ := HC.out (by omega)
      have hzk := (ho.below.cell (p := ⟨b, off + k, none⟩) hb).trans (hz k hlt)
      clear hz
      have hNs : w.heap.size < wr.heap.size := by have := ho.size; omega
      have hNl : w.heap.size + 1 < wr.heap.size := by have := ho.size; omega
      have hak := ho.arr.cell hlt
      simp only [Nat.lt_irrefl, if_false] at hak
      have hfk := ho.arr.frozen k
      have HO : Hid (Ord w w.heap.size 1 n k Z L wr) := ho
      clear ho
      go_wp2_with fail
      refine (ord_push (.inr rfl) 1 rfl HO.out hlt).mono ?_
      rintro e w1 ⟨rfl, ho⟩
      have HO1 : Hid (Ord w w.heap.size 1 n (k + 1) Z (L ++ [wr.heap.size]) w1) := ho
      clear ho HO hak hfk hzk hNs hNl
      go_wp2
      go_roundw
      case rel => exact ⟨k + 1, _, by omega, by go_num, HO1.out⟩
      case measure => simp [intOf]; omega
    · obtain rfl : k = n := by omega
      have HO : Hid (Ord w w.heap.size 1 k k Z L wr) := ho
      clear ho HC
      go_wp2_with fail
      refine (extra_push (.inr rfl) 1 rfl 7 HO.out).mono ?_
      rintro e w1 ⟨rfl, ha⟩
      have hl := ha.linked.last
      have hf := ha.linked.first
      have hx := ha.linked.prev k (by simp [ha.len])
      have hy := ha.linked.next k (by simp [ha.len])
      have hlen : (L ++ [wr.heap.size]).length = k + 1 := by simp [ha.len]
      have e1 : (L ++ [wr.heap.size]).getD k 0 = wr.heap.size := by rw [← ha.len, getD_snoc_eq]
      rw [e1] at hx hy
      rw [hlen, if_neg (by omega)] at hy
      rw [hlen, if_pos (by omega), Nat.add_sub_cancel, e1] at hl
      rw [hlen, if_pos (by omega)] at hf
      simp only [Nat.mul_one, Nat.reduceAdd] at hx hy
      by_cases hk0 : 0 < k
      · rw [if_pos hk0, getD_snoc_lt (by rw [ha.len]; omega)] at hx
        have harr := ha.arr.cell (i := k - 1) (by omega)
        have hnx := ha.linked.next (k - 1) (by omega)
        rw [getD_snoc_lt (by rw [ha.len]; omega), if_pos (by omega), show k - 1 + 1 = k from by omega, e1] at hnx
        simp only [Nat.mul_one, Nat.reduceAdd] at hnx
        have HA : Hid (Aft w w.heap.size 1 k L wr.heap.size w1) := ha
        clear ha e1 hlen HO hf
        obtain ⟨bq, hbq⟩ : ∃ bq, bq = L.getD (k - 1) 0 := ⟨_, rfl⟩
        rw [← hbq] at hx harr hnx
        clear hbq
        have hpos : decide ((0 : Int) < (k : Int)) = true := by simp; omega
        have hkz : ((k : Int) == 0) = false := by simp; omega
        go_wp2
        go_quiet (fail)
        go_wp2_with fail
        refine (extra_remove (.inr rfl) 1 rfl (HA.out.drewN _)).mono ?_
        rintro e w2 ⟨rfl, hl2, hx2, hy2, har2, hb2⟩
        have HL : Hid (Linked w2 1 (w.heap.size + 1) L) := hl2
        have HR : Hid (w2.rowIs w.heap.size 26 k (fun i => pb (L.getD i 0))) := har2
        have HB : Hid (Below w.heap.size w w2) := hb2
        simp only [Nat.mul_one, Nat.reduceAdd] at hx2 hy2
        clear hl2 har2 hb2 hx hy harr hnx hl
        go_wp2_with fail
        refine (walk_any 1 (w.heap.size + 1) w.heap.size k k L _ (.inr rfl) HA.out.len.symm hn HL.out (fun i hi => HR.out.cell hi)).mono ?_
        rintro e w3 ⟨rfl, m1, rfl⟩
        go_wp2
        go_ret
        exact ⟨rfl, HB.out.trans ⟨rfl, rfl, rfl, Nat.le_refl _, fun _ _ => rfl⟩⟩
      · rw [if_neg hk0] at hx
        rw [show (L ++ [wr.heap.size]).getD 0 0 = wr.heap.size from (congrArg (fun t => (L ++ [wr.heap.size]).getD t 0) (by omega : (0 : Nat) = k)).trans e1] at hf
        have HA : Hid (Aft w w.heap.size 1 k L wr.heap.size w1) := ha
        clear ha e1 hlen HO
        have hpos : decide ((0 : Int) < (k : Int)) = false := by simp; omega
        have hkz : ((k : Int) == 0) = true := by simp; omega
        go_wp2
        go_quiet (fail)
        go_wp2_with fail
        refine (extra_remove (.inr rfl) 1 rfl (HA.out.drewN _)).mono ?_
        rintro e w2 ⟨rfl, hl2, hx2, hy2, har2, hb2⟩
        have HL : Hid (Linked w2 1 (w.heap.size + 1) L) := hl2
        have HR : Hid (w2.rowIs w.heap.size 26 k (fun i => pb (L.getD i 0))) := har2
        have HB : Hid (Below w.heap.size w w2) := hb2
        simp only [Nat.mul_one, Nat.reduceAdd] at hx2 hy2
        clear hl2 har2 hb2 hx hy hl hf
        go_wp2_with fail
        refine (walk_any 1 (w.heap.size + 1) w.heap.size k k L _ (.inr rfl) HA.out.len.symm hn HL.out (fun i hi => HR.out.cell hi)).mono ?_
        rintro e w3 ⟨rfl, m1, rfl⟩
        go_wp2
        go_ret
        exact ⟨rfl, HB.out.trans ⟨rfl, rfl, rfl, Nat.le_refl _, fun _ _ => rfl⟩⟩
end Go.Proofs.Ybulkchec
