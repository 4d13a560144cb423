/- THE WALK OF LawS4162AOrder (function 3), for sel even and for sel odd. -/
import Derived.Test.YbulkchecOrd
import Derived.Test.YbulkchecPush
import Derived.Test.YbulkchecWalk
namespace Go.Proofs.Ybulkchec
open Go.RowKit
set_option linter.unusedVariables false
set_option linter.unusedSimpArgs false
theorem info26 : (Yba.prog.info? 26).map (fun i => (i.zero, i.size, i.bytes)) = some (some (.pointer none), 1, 8) := by kernel_rfl

theorem other_zero (w : World) : Calls Yba.prog 8 #[.int .u8 0] w fun e w' => e = .returned (.int .u8 1) ∧ w = w' := by
  go_enter Yba.func8, Yba.ntmps8
  go_wp2
  go_ret
  exact ⟨rfl, rfl⟩
theorem other_one (w : World) : Calls Yba.prog 8 #[.int .u8 1] w fun e w' => e = .returned (.int .u8 0) ∧ w = w' := by
  go_enter Yba.func8, Yba.ntmps8
  go_wp2
  go_ret
  exact ⟨rfl, rfl⟩

set_option maxHeartbeats 400000 in
theorem order_even (sel : Int) (hs : 0 ≤ sel ∧ sel ≤ 255) (hsel : sel % 2 = 0) (ad : Option Addr) (n cap : Nat) (Z : Nat → Int) (w : World) (hn : n ≤ 1024)
    (HC : Hid (0 < n → ∃ b off, ad = some ⟨b, off, none⟩ ∧ b < w.heap.size ∧ ∀ i, i < n → w.cell? ⟨b, off + i, none⟩ = some (.int .u64 (Z i)))) :
    Calls Yba.prog 3 #[.slice ad n cap, .int .u8 sel] w fun e w' => e = .returned (.bool true) ∧ Below w.heap.size w w' := by
  have hmk := run_make_row' (P := Yba.prog) 25 26 (.pointer none) 8 Yba.underlying25 info26 rfl .i64 .i64 n (by omega) (by omega)
  obtain ⟨hs0, hs1⟩ := hs
  have hgt : decide ((1024 : Int) < (n : Int)) = false := by simp; omega
  have hsame := neq_same
  go_enter Yba.func3, Yba.ntmps3
  go_wp2_with (go_at_call 8; refine (other_zero _).mono ?_; rintro e w' ⟨rfl, rfl⟩)
  clear hmk
  go_loopw [10] (fun i wr => ∃ (k : Nat) (L : List Nat), k ≤ n ∧ i = .int .i64 k ∧ Ord w w.heap.size 0 n k Z L wr) (fun i _ => n - (intOf i).toNat)
  case atStart => exact ⟨0, [], Nat.zero_le _, rfl, ord_start w 0 n Z⟩
  case round =>
    obtain ⟨k, L, hk, rfl, ho⟩ := hrel
    by_cases hlt : k < n
    · obtain ⟨b, off, rfl, hb, hz⟩ := HC.out (by omega)
      have hzk := (ho.below.cell (p := ⟨b, off + k, none⟩) hb).trans (hz k hlt)
      clear hz
      have hNs : w.heap.size < wr.heap.size := by have := ho.size; omega
      have hNl : w.heap.size + 1 < wr.heap.size := by have := ho.size; omega
      have hak := ho.arr.cell hlt
      simp only [Nat.lt_irrefl, if_false] at hak
      have hfk := ho.arr.frozen k
      have HO : Hid (Ord w w.heap.size 0 n k Z L wr) := ho
      clear ho
      go_wp2_with fail
      refine (ord_push (.inl rfl) 0 rfl HO.out hlt).mono ?_
      rintro e w1 ⟨rfl, ho⟩
      have hx := ho.arr.cell hlt
      have hy := ho.linked.last
      have hll := ho.len
      rw [hll, if_pos (by omega)] at hy
      rw [if_pos (by omega)] at hx
      rw [Nat.add_sub_cancel] at hy
      have HO1 : Hid (Ord w w.heap.size 0 n (k + 1) Z (L ++ [wr.heap.size]) w1) := ho
      clear ho HO hll hak hfk hzk hNs hNl
      obtain ⟨bq, hbq⟩ : ∃ bq, bq = (L ++ [wr.heap.size]).getD k 0 := ⟨_, rfl⟩
      rw [← hbq] at hx hy
      clear hbq
      go_wp2
      go_quiet (fail)
      go_wp2
      go_roundw
      case rel => exact ⟨k + 1, _, by omega, by go_num, HO1.out.drewN _⟩
      case measure => simp [intOf]; omega
    · obtain rfl : k = n := by omega
      have HO : Hid (Ord w w.heap.size 0 k k Z L wr) := ho
      clear ho
      obtain ⟨wo, rfl⟩ : ∃ wo : World, wo = wr := ⟨_, rfl⟩
      have hzero := links_zero
      go_wp2
      go_loopw [11] (fun i wr => ∃ (j : Nat), j ≤ k ∧ i = .int .i64 j ∧ ∃ m, wr = wo.drewN m) (fun i _ => k - (intOf i).toNat)
      case atStart => exact ⟨0, Nat.zero_le _, rfl, 0, rfl⟩
      case round =>
        obtain ⟨j, hj, rfl, m, rfl⟩ := hrel
        by_cases hlt : j < k
        · obtain ⟨b, off, rfl, hb, hz⟩ := HC.out (by omega)
          have ho := HO.out
          have hzk := (ho.below.cell (p := ⟨b, off + j, none⟩) hb).trans (hz j hlt)
          have hak := ho.arr.cell hlt
          rw [if_pos hlt] at hak
          have hq := ho.seq j hlt
          obtain ⟨ho1, ho2⟩ := ho.oth j hlt
          simp only [Nat.sub_zero, Nat.mul_one, Nat.reduceAdd] at ho1 ho2
          clear hz ho
          obtain ⟨bq, hbq⟩ : ∃ bq, bq = L.getD j 0 := ⟨_, rfl⟩
          rw [← hbq] at hak hq ho1 ho2
          clear hbq
          have hj0 : (0 : Int) ≤ (j : Int) := by omega
          have hjk : (j : Int) < (k : Int) := by omega
          go_wp2
          go_quiet (fail)
          go_wp2
          go_roundw
          case rel => exact ⟨j + 1, by omega, by go_num, _, rfl⟩
          case measure => simp [intOf]; omega
        · go_wp2_with fail
          refine (walk_any 0 (w.heap.size + 1) w.heap.size k k L _ (.inl rfl) HO.out.len.symm hn (HO.out.drewN m).linked (fun i hi => ?_)).mono ?_
          · have := (HO.out.drewN m).arr.cell hi
            rw [if_pos hi] at this
            exact this
          rintro e w1 ⟨rfl, m1, rfl⟩
          go_wp2
          go_ret
          exact ⟨rfl, (HO.out.drewN m).below.trans ⟨rfl, rfl, rfl, Nat.le_refl _, fun _ _ => rfl⟩⟩
set_option maxHeartbeats 400000 in
theorem order_odd (sel : Int) (hs : 0 ≤ sel ∧ sel ≤ 255) (hsel : sel % 2 = 1) (ad : Option Addr) (n cap : Nat) (Z : Nat → Int) (w : World) (hn : n ≤ 1024)
    (HC : Hid (0 < n → ∃ b off, ad = some ⟨b, off, none⟩ ∧ b < w.heap.size ∧ ∀ i, i < n → w.cell? ⟨b, off + i, none⟩ = some (.int .u64 (Z i)))) :
    Calls Yba.prog 3 #[.slice ad n cap, .int .u8 sel] w fun e w' => e = .returned (.bool true) ∧ Below w.heap.size w w' := by
  have hmk := run_make_row' (P := Yba.prog) 25 26 (.pointer none) 8 Yba.underlying25 info26 rfl .i64 .i64 n (by omega) (by omega)
  obtain ⟨hs0, hs1⟩ := hs
  have hgt : decide ((1024 : Int) < (n : Int)) = false := by simp; omega
  have hsame := neq_same
  go_enter Yba.func3, Yba.ntmps3
  go_wp2_with (go_at_call 8; refine (other_one _).mono ?_; rintro e w' ⟨rfl, rfl⟩)
  clear hmk
  go_loopw [10] (fun i wr => ∃ (k : Nat) (L : List Nat), k ≤ n ∧ i = .int .i64 k ∧ Ord w w.heap.size 1 n k Z L wr) (fun i _ => n - (intOf i).toNat)
  case atStart => exact ⟨0, [], Nat.zero_le _, rfl, ord_start w 1 n Z⟩
  case round =>
    obtain ⟨k, L, hk, rfl, ho⟩ := hrel
    by_cases hlt : k < n
    · obtain ⟨b, off, rfl, hb, hz⟩ := HC.out (by omega)
      have hzk := (ho.below.cell (p := ⟨b, off + k, none⟩) hb).trans (hz k hlt)
      clear hz
      have hNs : w.heap.size < wr.heap.size := by have := ho.size; omega
      have hNl : w.heap.size + 1 < wr.heap.size := by have := ho.size; omega
      have hak := ho.arr.cell hlt
      simp only [Nat.lt_irrefl, if_false] at hak
      have hfk := ho.arr.frozen k
      have HO : Hid (Ord w w.heap.size 1 n k Z L wr) := ho
      clear ho
      go_wp2_with fail
      refine (ord_push (.inr rfl) 1 rfl HO.out hlt).mono ?_
      rintro e w1 ⟨rfl, ho⟩
      have hx := ho.arr.cell hlt
      have hy := ho.linked.last
      have hll := ho.len
      rw [hll, if_pos (by omega)] at hy
      rw [if_pos (by omega)] at hx
      rw [Nat.add_sub_cancel] at hy
      have HO1 : Hid (Ord w w.heap.size 1 n (k + 1) Z (L ++ [wr.heap.size]) w1) := ho
      clear ho HO hll hak hfk hzk hNs hNl
      obtain ⟨bq, hbq⟩ : ∃ bq, bq = (L ++ [wr.heap.size]).getD k 0 := ⟨_, rfl⟩
      rw [← hbq] at hx hy
      clear hbq
      go_wp2
      go_quiet (fail)
      go_wp2
      go_roundw
      case rel => exact ⟨k + 1, _, by omega, by go_num, HO1.out.drewN _⟩
      case measure => simp [intOf]; omega
    · obtain rfl : k = n := by omega
      have HO : Hid (Ord w w.heap.size 1 k k Z L wr) := ho
      clear ho
      obtain ⟨wo, rfl⟩ : ∃ wo : World, wo = wr := ⟨_, rfl⟩
      have hzero := links_zero
      go_wp2
      go_loopw [11] (fun i wr => ∃ (j : Nat), j ≤ k ∧ i = .int .i64 j ∧ ∃ m, wr = wo.drewN m) (fun i _ => k - (intOf i).toNat)
      case atStart => exact ⟨0, Nat.zero_le _, rfl, 0, rfl⟩
      case round =>
        obtain ⟨j, hj, rfl, m, rfl⟩ := hrel
        by_cases hlt : j < k
        · obtain ⟨b, off, rfl, hb, hz⟩ := HC.out (by omega)
          have ho := HO.out
          have hzk := (ho.below.cell (p := ⟨b, off + j, none⟩) hb).trans (hz j hlt)
          have hak := ho.arr.cell hlt
          rw [if_pos hlt] at hak
          have hq := ho.seq j hlt
          obtain ⟨ho1, ho2⟩ := ho.oth j hlt
          simp only [Nat.sub_self, Nat.mul_zero, Nat.add_zero] at ho1 ho2
          clear hz ho
          obtain ⟨bq, hbq⟩ : ∃ bq, bq = L.getD j 0 := ⟨_, rfl⟩
          rw [← hbq] at hak hq ho1 ho2
          clear hbq
          have hj0 : (0 : Int) ≤ (j : Int) := by omega
          have hjk : (j : Int) < (k : Int) := by omega
          go_wp2
          go_quiet (fail)
          go_wp2
          go_roundw
          case rel => exact ⟨j + 1, by omega, by go_num, _, rfl⟩
          case measure => simp [intOf]; omega
        · go_wp2_with fail
          refine (walk_any 1 (w.heap.size + 1) w.heap.size k k L _ (.inr rfl) HO.out.len.symm hn (HO.out.drewN m).linked (fun i hi => ?_)).mono ?_
          · have := (HO.out.drewN m).arr.cell hi
            rw [if_pos hi] at this
            exact this
          rintro e w1 ⟨rfl, m1, rfl⟩
          go_wp2
          go_ret
          exact ⟨rfl, (HO.out.drewN m).below.trans ⟨rfl, rfl, rfl, Nat.le_refl _, fun _ _ => rfl⟩⟩
end Go.Proofs.Ybulkchec
