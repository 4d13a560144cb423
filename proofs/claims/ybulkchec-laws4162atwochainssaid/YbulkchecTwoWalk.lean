/- THE WALK OF LawS4162ATwoChains (function 4). -/
import Derived.Test.YbulkchecTwo
import Derived.Test.YbulkchecWalk
namespace Go.Proofs.Ybulkchec
open Go.RowKit
set_option linter.unusedVariables false
set_option linter.unusedSimpArgs false
set_option maxHeartbeats 400000 in
theorem two_core (m : Nat) (hm : m ≤ 1024) (ad : Option Addr) (n cap : Nat) (B : Nat → Bool) (w : World) (hn : n ≤ 1024)
    (HC : Hid (0 < n → ∃ b off, ad = some ⟨b, off, none⟩ ∧ b < w.heap.size ∧ ∀ i, i < n → w.cell? ⟨b, off + i, none⟩ = some (.bool (B i)))) :
    Calls Yba.prog 4 #[.int .u16 m, .slice ad n cap] w fun e w' => e = .returned (.bool true) ∧ Below w.heap.size w w' := by
  have hgm : decide ((1024 : Int) < (m : Int)) = false := by simp; omega
  have hgt : decide ((1024 : Int) < (n : Int)) = false := by simp; omega
  obtain ⟨i0, hi, hz0, hz1, hz2⟩ := info_parts info26t
  have hsame := neq_same
  have hzero := links_zero
  have hmk := make_zero m hm
  go_enter Yba.func4, Yba.ntmps4
  go_wp2
  clear hmk
  go_loopw [8, 9, 10, 11] (fun s8 s9 i _ wr => ∃ (k l : Nat) (L M : List Nat), k ≤ m ∧ l = M.length ∧ i = .int .i64 k ∧ s8 = .slice (some ⟨w.heap.size + 2, 0, none⟩) k m ∧ s9 = .slice (some ⟨w.heap.size + 3, 0, none⟩) l m ∧ TwoRel w m n k B L M wr) (fun _ _ i _ _ => m - (intOf i).toNat)
  case atStart =>
    obtain ⟨h1, h2, h3⟩ := two_start w m hm _ rfl
    exact ⟨0, 0, [], [], Nat.zero_le _, rfl, rfl, rfl, rfl, rfl, Nat.le_refl _, fun j hj => absurd hj (by omega), h1, h2, h3⟩
  case round =>
    obtain ⟨k, l, L, M, hk, hl, rfl, rfl, rfl, ht⟩ := hrel
    have HL : Hid (l = M.length) := hl
    clear hl
    by_cases hlt : k < m
    · have HT : Hid (TwoRel w m n k B L M wr) := ht
      clear ht
      go_wp2_with fail
      refine (base_push_all k HT.out.base).mono ?_
      rintro e w1 ⟨rfl, hb1, hg1, hs1, hnm⟩
      have HB1 : Hid (Base w w.heap.size (L ++ [wr.heap.size]) M w1) := hb1
      have HG1 : Hid (∀ g, g = w.heap.size + 2 ∨ g = w.heap.size + 3 → w1.heap[g]? = wr.heap[g]?) := hg1
      have HS1 : Hid (w1.heap.size = wr.heap.size + 1) := hs1
      have HM1 : Hid (wr.heap.size ∉ M) := hnm
      have hsz := HT.out.base.size
      have HO1 : Hid (∀ ob, (w1.alloc ob).ownsRow (w.heap.size + 2) 26 1 (.slice (some ⟨w.heap.size + 2, 0, none⟩) k m) k (L.map pb)) :=
        fun ob => own_keep HT.out.own1 (by rw [Below.heap_alloc _ _ _ (by omega)]; exact hg1 _ (.inl rfl))
      clear hb1 hg1 hs1 hnm
      by_cases hkn : k < n
      · obtain ⟨b, off, rfl, hb, hz⟩ := HC.out (by omega)
        have HZ : Hid (∀ wz, Below w.heap.size w wz → wz.cell? ⟨b, off + k, none⟩ = some (.bool (B k))) := fun wz h => (h.cell (p := ⟨b, off + k, none⟩) hb).trans (hz k hkn)
        clear hz
        cases hB : B k
        · rw [hB] at HZ
          clear hB
          go_wp2_with (at_builtin; refine wpList_append_fits _ rfl (.tmp 38) (.tmp 40) 25 rfl (w.heap.size + 2) 26 i0 1 Yba.underlying25 hi hz1 (w.heap.size + 2) k m (L.map pb) rfl (HO1.out _) ⟨w1.heap.size, 0, none⟩ 1 1 [pb wr.heap.size] rfl rfl (one_new _ _ _) (one_cell _) (by omega) ?_; intro w2 ho2 hgr2; obtain ⟨ht2, hq2⟩ := two_step HT.out HB1.out HG1.out HS1.out HM1.out ho2 hgr2; have hck := HZ.out w2 ht2.base.below; have HT2 : Hid (TwoRel w m n (k + 1) B (L ++ [wr.heap.size]) M w2) := ht2; have HQ2 : Hid ((L ++ [wr.heap.size]).getD k 0 = wr.heap.size) := hq2; clear ht2 hq2 ho2 hgr2)
          go_roundw
          case rel => exact ⟨k + 1, l, _, _, by omega, HL.out, by go_num, rfl, rfl, HT2.out⟩
          case measure => simp [intOf]; omega
        · have HB : Hid (inB n B k = true) := by show _ = _; simp [inB, hB, hkn]
          rw [hB] at HZ
          clear hB
          go_wp2_with (at_builtin; refine wpList_append_fits _ rfl (.tmp 38) (.tmp 40) 25 rfl (w.heap.size + 2) 26 i0 1 Yba.underlying25 hi hz1 (w.heap.size + 2) k m (L.map pb) rfl (HO1.out _) ⟨w1.heap.size, 0, none⟩ 1 1 [pb wr.heap.size] rfl rfl (one_new _ _ _) (one_cell _) (by omega) ?_; intro w2 ho2 hgr2; obtain ⟨ht2, hq2⟩ := two_step HT.out HB1.out HG1.out HS1.out HM1.out ho2 hgr2; have hck := HZ.out w2 ht2.base.below; have HT2 : Hid (TwoRel w m n (k + 1) B (L ++ [wr.heap.size]) M w2) := ht2; have HQ2 : Hid ((L ++ [wr.heap.size]).getD k 0 = wr.heap.size) := hq2; clear ht2 hq2 ho2 hgr2)
          refine (base_push_lane wr.heap.size HT2.out.base (by simp) HM1.out).mono ?_
          rintro e w3 ⟨rfl, hb3, hg3, hs3⟩
          have hl : l = M.length := HL.out
          have hml := HT.out.mlen
          have HB3 : Hid (Base w w.heap.size (L ++ [wr.heap.size]) (M ++ [wr.heap.size]) w3) := hb3
          have HG3 : Hid (∀ g, g = w.heap.size + 2 ∨ g = w.heap.size + 3 → w3.heap[g]? = w2.heap[g]?) := hg3
          have HS3 : Hid (w3.heap.size = w2.heap.size) := hs3
          have hsz2 := HT2.out.base.size
          have HO3 : Hid (∀ ob, (w3.alloc ob).ownsRow (w.heap.size + 2) 26 1 (.slice (some ⟨w.heap.size + 3, 0, none⟩) l m) l (M.map pb)) := by
            intro ob
            rw [hl]
            exact own_keep HT2.out.own2 (by rw [Below.heap_alloc _ _ _ (by omega)]; exact hg3 _ (.inr rfl))
          have hlm : l + 1 ≤ m := by omega
          clear hb3 hg3 hs3 hl hml hck
          go_wp2_with (at_builtin; refine wpList_append_fits _ rfl (.tmp 54) (.tmp 56) 25 rfl (w.heap.size + 2) 26 i0 1 Yba.underlying25 hi hz1 (w.heap.size + 3) l m (M.map pb) rfl (HO3.out _) ⟨w3.heap.size, 0, none⟩ 1 1 [pb wr.heap.size] rfl rfl (one_new _ _ _) (one_cell _) (by omega) ?_; intro w4 ho4 hgr4; rw [show l = M.length from HL.out] at ho4; have ht4 := two_lane HT2.out HQ2.out HB.out HM1.out HT.out.mlen HB3.out HG3.out HS3.out ho4 hgr4; have HT4 : Hid (TwoRel w m n (k + 1) B (L ++ [wr.heap.size]) (M ++ [wr.heap.size]) w4) := ht4; clear ht4 ho4 hgr4)
          go_roundw
          case rel => exact ⟨k + 1, l + 1, _, _, by omega, by rw [show l = M.length from HL.out]; simp, by go_num, rfl, rfl, HT4.out⟩
          case measure => simp [intOf]; omega
      · have hkn' : ¬ (k : Int) < (n : Int) := by omega
        go_wp2_with (at_builtin; refine wpList_append_fits _ rfl (.tmp 38) (.tmp 40) 25 rfl (w.heap.size + 2) 26 i0 1 Yba.underlying25 hi hz1 (w.heap.size + 2) k m (L.map pb) rfl (HO1.out _) ⟨w1.heap.size, 0, none⟩ 1 1 [pb wr.heap.size] rfl rfl (one_new _ _ _) (one_cell _) (by omega) ?_; intro w2 ho2 hgr2; obtain ⟨ht2, hq2⟩ := two_step HT.out HB1.out HG1.out HS1.out HM1.out ho2 hgr2; have HT2 : Hid (TwoRel w m n (k + 1) B (L ++ [wr.heap.size]) M w2) := ht2; have HQ2 : Hid ((L ++ [wr.heap.size]).getD k 0 = wr.heap.size) := hq2; clear ht2 hq2 ho2 hgr2)
        go_roundw
        case rel => exact ⟨k + 1, l, _, _, by omega, HL.out, by go_num, rfl, rfl, HT2.out⟩
        case measure => simp [intOf]; omega
    · obtain rfl : k = m := by omega
      have HT : Hid (TwoRel w k n k B L M wr) := ht
      clear ht
      go_wp2
      go_loop [12, 13] (fun i _ => ∃ j : Nat, j ≤ k ∧ i = .int .i64 j) (fun i _ => k - (intOf i).toNat)
      case atStart => exact ⟨0, Nat.zero_le _, rfl⟩
      case round =>
        obtain ⟨j, hj, rfl⟩ := hrel
        by_cases hjk : j < k
        · have hak := own_cell HT.out.own1 hjk
          by_cases hjn : j < n
          · obtain ⟨b, off, rfl, hb, hz⟩ := HC.out (by omega)
            have hzk := (HT.out.base.below.cell (p := ⟨b, off + j, none⟩) hb).trans (hz j hjn)
            clear hz
            cases hB : B j
            · rw [hB] at hzk
              have hm := HT.out.mem j hjk (by simp [inB, hB])
              obtain ⟨_, _, ho⟩ := HT.out.base.off _ (getD_mem (L := L) (i := j) (by rw [HT.out.len]; exact hjk))
              obtain ⟨ho1, ho2⟩ := ho hm
              clear ho hm hB
              obtain ⟨bq, hbq⟩ : ∃ bq, bq = L.getD j 0 := ⟨_, rfl⟩
              rw [← hbq] at hak ho1 ho2
              clear hbq
              go_wp2
              go_round
              case rel => exact ⟨j + 1, by omega, by go_num⟩
              case measure => simp [intOf]; omega
            · rw [hB] at hzk
              clear hB
              go_wp2
              go_round
              case rel => exact ⟨j + 1, by omega, by go_num⟩
              case measure => simp [intOf]; omega
          · have hjn' : ¬ (j : Int) < (n : Int) := by omega
            have hm := HT.out.mem j hjk (by simp [inB, hjn])
            obtain ⟨_, _, ho⟩ := HT.out.base.off _ (getD_mem (L := L) (i := j) (by rw [HT.out.len]; exact hjk))
            obtain ⟨ho1, ho2⟩ := ho hm
            clear ho hm
            obtain ⟨bq, hbq⟩ : ∃ bq, bq = L.getD j 0 := ⟨_, rfl⟩
            rw [← hbq] at hak ho1 ho2
            clear hbq
            go_wp2
            go_round
            case rel => exact ⟨j + 1, by omega, by go_num⟩
            case measure => simp [intOf]; omega
        · go_wp2_with fail
          refine (walk_any 0 w.heap.size (w.heap.size + 2) k k L _ (.inl rfl) HT.out.len.symm hm HT.out.base.lk1 (fun i hi => own_cell HT.out.own1 hi)).mono ?_
          rintro e w1 ⟨rfl, m1, rfl⟩
          go_wp2_with fail
          refine (walk_any 1 (w.heap.size + 1) (w.heap.size + 3) k l M _ (.inr rfl) HL.out (by have := HT.out.mlen; have : l = M.length := HL.out; omega) (HT.out.base.drewN m1).lk2 (fun i hi => ?_)).mono ?_
          · have hl : l = M.length := HL.out
            exact own_cell HT.out.own2 (by omega)
          rintro e w2 ⟨rfl, m2, rfl⟩
          go_wp2
          go_ret
          exact ⟨rfl, HT.out.base.below.trans ⟨rfl, rfl, rfl, Nat.le_refl _, fun _ _ => rfl⟩⟩
end Go.Proofs.Ybulkchec
