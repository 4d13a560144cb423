/- CONTRACT OF Next (18). -/
import Derived.Test.YbulkchfsAsk
namespace Go.Proofs.Ybulkchfs
open Go.RowKit Go.Lib
set_option linter.unusedVariables false
set_option linter.unusedSimpArgs false

def NextPost (w : World) (bl : Nat) (L : St) (kn : Nat) (r : Ending) (w' : World) : Prop :=
  ∃ (bb m cap : Nat) (Y : Nat → Int) (L' : St), r = .returned (slV bb m cap) ∧ m ≤ kn ∧ RowW w' 24 bb m cap (conts Y) ∧ (0 < cap → w.heap.size ≤ bb) ∧ Rep w' bl L' ∧ Asked L L' m Y ∧ Chg (Own bl L) w w'

theorem next_any (w : World) (bl : Nat) (L : St) (kn : Nat) (H : Rep w bl L) (hk : L.k = (kn : Int)) (hkn : kn ≤ 1000) (hdr : L.drawn = L.k) (hout : L.out = L.active) (hact : -100000 ≤ L.active ∧ L.active ≤ 100000) (hst : ∀ i, i < L.n → L.S (L.E i) ≠ 5 ∧ L.S (L.E i) ≠ 2) :
    Calls Yba.prog 18 #[pb bl] w (NextPost w bl L kn) := by
  have c74 := H.fields.over
  have c73 := H.fields.hit
  have HAsk : Hid (Calls Yba.prog 37 #[pb bl] w fun r w' => ∃ (bb m cap : Nat) (ad : Option Addr) (Y : Nat → Int) (L' : St), r = .returned (.slice ad m cap) ∧ w'.cell? ⟨bl, 70, none⟩ = some (.int .i64 L'.active) ∧ w'.cell? ⟨bl, 71, none⟩ = some (.int .i64 L'.out) ∧ w'.cell? ⟨bl, 72, none⟩ = some (.int .i64 L'.answered) ∧ w'.cell? ⟨bl, 73, none⟩ = some (.bool false) ∧ w'.cell? ⟨bl, 74, none⟩ = some (.bool L'.over) ∧ w'.cell? ⟨bl, 75, none⟩ = some .nilFunc ∧ w'.frozen? ⟨bl, 74, none⟩ = false ∧
      Hid (NextPost w bl L kn (.returned (.slice ad m cap)) w') ∧ Hid (NextPost w bl L kn (.returned (.slice ad m cap)) (w'.setCell ⟨bl, 74, none⟩ (.bool true)))) := by
    refine (ask_any w bl L kn H hk hkn hdr hout hact hst).mono ?_
    rintro r w' ⟨bb, m, cap, Y, L', rfl, h1, h2, h3, h4, h5, h6, h7⟩
    have hbl := H.fields.lt
    refine ⟨bb, m, cap, _, Y, L', rfl, h4.fields.active, h4.fields.out, h4.fields.answered, h4.fields.hit, h4.fields.over, h4.fields.after, h4.fields.thaw _, ⟨bb, m, cap, Y, L', rfl, h1, h2, h3, h4, h5, h7⟩, ⟨bb, m, cap, Y, { L' with over := true }, rfl, h1, ?_, h3, h4.setOver true, ?_, ?_⟩⟩
    · exact h2.keep (fun hc => set_bl _ _ _ _ _ (by have := h3 hc; omega))
    · refine ⟨?_, h5.turn, h5.pick, h5.apart⟩
      have := h5.same
      rw [this]
    · exact h7.setCell _ _ (fun _ => .inl rfl)
  have HOver : Hid (NextPost w bl L kn (.returned (.slice none 0 0)) w) := ⟨0, 0, 0, fun _ => 0, L, rfl, by omega, RowW.nil _ _ _ _, fun h => absurd h (by omega), H, ⟨by simp, fun i hi => .inl rfl, fun j hj => absurd hj (by omega), fun j j' h1 h2 => absurd h2 (by omega)⟩, Chg.refl _ _⟩
  clear H hk hkn hdr hout hact hst
  cases hov : L.over with
  | true =>
    rw [hov] at c74
    go_enter Yba.func18, Yba.ntmps18
    go_wp2
    go_ret
    exact HOver.out
  | false =>
    rw [hov] at c74
    go_enter Yba.func18, Yba.ntmps18
    go_wp2_with (first | (go_at_call 37; refine HAsk.out.mono ?_; rintro _ w1 ⟨bb, m, cap, ad, Y, L', rfl, c70, c71, c72, d73, d74, c75, f74, HA, HB⟩) | (go_at_call 38; refine (finish_any _ _ _ c75 d74 f74).mono ?_; rintro _ _ ⟨rfl, rfl⟩))
    all_goals
      go_ret
      first | exact HA.out | exact HB.out | (have hm0 : m = 0 := by omega
                                             subst hm0
                                             first | exact HA.out | exact HB.out)
end Go.Proofs.Ybulkchfs
