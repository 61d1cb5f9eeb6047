import Derived.Test.YbulkagkqUp
namespace Go.Proofs.Ybulkagkq
open Go.RowKit Hp

theorem less_g (w : World) (base g cap n : Nat) (zs : List Int) (i j : Nat) (hn : n = zs.length) (h : Owns w base (.slice (some ⟨g, 0, none⟩) n cap) zs) (hi : i < n) (hj : j < n) :
    Calls Yba.prog 52 #[.slice (some ⟨g, 0, none⟩) n cap, .int .i64 i, .int .i64 j] w fun e w' => e = .returned (.bool (decide (el zs i < el zs j))) ∧ Owns w' base (.slice (some ⟨g, 0, none⟩) n cap) zs ∧ w.grownBy w' (some g) := by
  refine (less_n w base g cap n zs i j hn h hi hj).mono ?_
  rintro e w' ⟨rfl, q, rfl⟩
  exact ⟨rfl, h.drewN q, grown_drewN (World.grownBy.refl _ _) q⟩

set_option maxRecDepth 100000 in
set_option maxHeartbeats 1000000 in
theorem down_any (w : World) (xb base g cap N n : Nat) (zs : List Int) (hp : w.cell? ⟨xb, 1, none⟩ = some (.slice (some ⟨g, 0, none⟩) N cap)) (hN : N = zs.length) (h : Owns w base (.slice (some ⟨g, 0, none⟩) N cap) zs) (hb : xb < base) (hbg : base ≤ g) (hm : N ≤ 2000) (hnN : n ≤ N) (hd : DownInv n zs 0) :
    Calls Yba.prog 27 #[.iface 74 (.pointer (some ⟨xb, 1, none⟩)), .int .i64 0, .int .i64 n] w fun e w' => ∃ bb, e = .returned (.bool bb) ∧ ∃ zs', Owns w' base (.slice (some ⟨g, 0, none⟩) N cap) zs' ∧ zs'.Perm zs ∧ HeapN n zs' ∧ (∀ x, n ≤ x → el zs' x = el zs x) ∧ w.grownBy w' (some g) := by
  have HN : Hid (N = zs.length) := hN
  clear hN
  go_enter Yba.func27, Yba.ntmps27
  go_wp2
  go_loopw [7] (fun i wr => ∃ (k : Nat) (ys : List Int), i = .int .i64 k ∧ k ≤ n ∧ wr.cell? ⟨xb, 1, none⟩ = some (.slice (some ⟨g, 0, none⟩) N cap) ∧ Owns wr base (.slice (some ⟨g, 0, none⟩) N cap) ys ∧ Hid (ys.Perm zs) ∧ DownInv n ys k ∧ Hid (∀ x, n ≤ x → el ys x = el zs x) ∧ w.grownBy wr (some g)) (fun i _ => n - (intOf i).toNat)
  case atStart => exact ⟨0, zs, rfl, Nat.zero_le _, hp, h, List.Perm.refl _, hd, fun _ _ => rfl, World.grownBy.refl _ _⟩
  case round =>
    clear hp h hd
    obtain ⟨k, ys, rfl, hkn, hp, h, hperm, hd, hfix, hg⟩ := hrel
    have HL : Hid (N = ys.length) := HN.out.trans hperm.out.length_eq.symm
    by_cases h1 : n ≤ 2 * k + 1
    · have h1b : decide ((n : Int) ≤ 2 * (k : Int) + 1) = true := by simp; omega
      go_wp2
      go_ret
      exact ⟨_, rfl, ys, h, hperm.out, down_stop1 hd h1, hfix.out, hg⟩
    · have h1b : decide ((n : Int) ≤ 2 * (k : Int) + 1) = false := by simp; omega
      have h1c : decide (2 * (k : Int) + 1 < 0) = false := by simp; omega
      obtain ⟨j1, hj1⟩ : ∃ j1 : Nat, 2 * (k : Int) + 1 = (j1 : Int) := ⟨2 * k + 1, by omega⟩
      obtain ⟨j2, hj2⟩ : ∃ j2 : Nat, (j1 : Int) + 1 = (j2 : Int) := ⟨2 * k + 2, by omega⟩
      rw [hj1] at h1b h1c
      have HJ1 : Hid (j1 = 2 * k + 1) := by show j1 = 2 * k + 1; omega
      have HJ2 : Hid (j2 = 2 * k + 2) := by show j2 = 2 * k + 2; omega
      have b1 : j1 < n := by omega
      have b2 : k < j1 := by omega
      have b3 : j2 ≤ 2001 := by omega
      have b4 : k < j2 := by omega
      have b5 : j1 ≤ 2000 := by omega
      have b6 : k ≤ 2000 := by omega
      have nxt : Hid (2 * (k : Int) + 1 = (j1 : Int) ∧ (j1 : Int) + 1 = (j2 : Int)) := ⟨hj1, hj2⟩
      by_cases h2 : j2 < n
      · have h2b : decide ((j2 : Int) < (n : Int)) = true := by simp; omega
        have hml0 := meth_less wr ⟨xb, 1, none⟩ _ hp
        go_wp2_with fail
        refine (less_g wr base g cap N ys j2 j1 HL.out h (by omega) (by omega)).mono ?_
        rintro e w0 ⟨rfl, ho0, hg0⟩
        have hp0 : w0.cell? ⟨xb, 1, none⟩ = some (.slice (some ⟨g, 0, none⟩) N cap) := hg0.cell hp (by simp; omega)
        by_cases hl0 : el ys j2 < el ys j1
        · have SM : Hid (Small n ys k j2) := ⟨.inr HJ2.out, h2, fun _ => by rw [← HJ1.out]; omega, fun _ => by rw [← HJ2.out]; omega⟩
          have hml1 := meth_less w0 ⟨xb, 1, none⟩ _ hp0
          go_wp2_with fail
          refine (less_g w0 base g cap N ys j2 k HL.out ho0 (by omega) (by omega)).mono ?_
          rintro e wa ⟨rfl, hoa, hga⟩
          have hpa : wa.cell? ⟨xb, 1, none⟩ = some (.slice (some ⟨g, 0, none⟩) N cap) := hga.cell hp0 (by simp; omega)
          by_cases hls : el ys j2 < el ys k
          · have hms := meth_swap wa ⟨xb, 1, none⟩ _ hpa
            have hD := down_step hd SM.out hls
            go_wp2_with fail
            refine (swap_n wa base g cap N ys k j2 HL.out hoa (by omega) (by omega)).mono ?_
            rintro e wb ⟨rfl, ho2, hg2⟩
            have hg3 : w.grownBy wb (some g) := grown_trans (grown_trans (grown_trans hg hg0) hga) hg2
            have hp2 : wb.cell? ⟨xb, 1, none⟩ = some (.slice (some ⟨g, 0, none⟩) N cap) := hg2.cell hpa (by simp; omega)
            go_wp2
            go_roundw
            case rel =>
              exact ⟨j2, swapL ys k j2, by go_num, by omega, hp2, ho2, (swapL_perm ys k j2 (by have := HL.out; omega) (by have := HL.out; omega)).trans hperm.out, hD, fun x hx => by
                rw [el_swapL _ _ _ _ (by have := HL.out; omega) (by have := HL.out; omega), if_neg (by omega), if_neg (by omega)]; exact hfix.out x hx, hg3⟩
            case measure => simp [intOf]; omega
          · have hdd : decide (el ys j2 < el ys k) = false := by simpa using hls
            have hD := down_stop2 hd SM.out hls
            go_wp2
            go_ret
            exact ⟨_, rfl, ys, hoa, hperm.out, hD, hfix.out, grown_trans (grown_trans hg hg0) hga⟩
        · have hl0b : decide (el ys j2 < el ys j1) = false := by simpa using hl0
          have SM : Hid (Small n ys k j1) := ⟨.inl HJ1.out, b1, fun _ => by rw [← HJ1.out]; omega, fun _ => by rw [← HJ2.out]; omega⟩
          have hml2 := meth_less w0 ⟨xb, 1, none⟩ _ hp0
          go_wp2_with fail
          refine (less_g w0 base g cap N ys j1 k HL.out ho0 (by omega) (by omega)).mono ?_
          rintro e wa ⟨rfl, hoa, hga⟩
          have hpa : wa.cell? ⟨xb, 1, none⟩ = some (.slice (some ⟨g, 0, none⟩) N cap) := hga.cell hp0 (by simp; omega)
          by_cases hls : el ys j1 < el ys k
          · have hms := meth_swap wa ⟨xb, 1, none⟩ _ hpa
            have hD := down_step hd SM.out hls
            go_wp2_with fail
            refine (swap_n wa base g cap N ys k j1 HL.out hoa (by omega) (by omega)).mono ?_
            rintro e wb ⟨rfl, ho2, hg2⟩
            have hg3 : w.grownBy wb (some g) := grown_trans (grown_trans (grown_trans hg hg0) hga) hg2
            have hp2 : wb.cell? ⟨xb, 1, none⟩ = some (.slice (some ⟨g, 0, none⟩) N cap) := hg2.cell hpa (by simp; omega)
            go_wp2
            go_roundw
            case rel =>
              exact ⟨j1, swapL ys k j1, by go_num, by omega, hp2, ho2, (swapL_perm ys k j1 (by have := HL.out; omega) (by have := HL.out; omega)).trans hperm.out, hD, fun x hx => by
                rw [el_swapL _ _ _ _ (by have := HL.out; omega) (by have := HL.out; omega), if_neg (by omega), if_neg (by omega)]; exact hfix.out x hx, hg3⟩
            case measure => simp [intOf]; omega
          · have hdd : decide (el ys j1 < el ys k) = false := by simpa using hls
            have hD := down_stop2 hd SM.out hls
            go_wp2
            go_ret
            exact ⟨_, rfl, ys, hoa, hperm.out, hD, hfix.out, grown_trans (grown_trans hg hg0) hga⟩
      · have h2b : decide ((j2 : Int) < (n : Int)) = false := by simp; omega
        have SM : Hid (Small n ys k j1) := ⟨.inl HJ1.out, b1, fun _ => by rw [← HJ1.out]; omega, fun h' => by have := HJ2.out; omega⟩
        have hml3 := meth_less wr ⟨xb, 1, none⟩ _ hp
        go_wp2_with fail
        refine (less_g wr base g cap N ys j1 k HL.out h (by omega) (by omega)).mono ?_
        rintro e wa ⟨rfl, hoa, hga⟩
        have hpa : wa.cell? ⟨xb, 1, none⟩ = some (.slice (some ⟨g, 0, none⟩) N cap) := hga.cell hp (by simp; omega)
        by_cases hls : el ys j1 < el ys k
        · have hms := meth_swap wa ⟨xb, 1, none⟩ _ hpa
          have hD := down_step hd SM.out hls
          go_wp2_with fail
          refine (swap_n wa base g cap N ys k j1 HL.out hoa (by omega) (by omega)).mono ?_
          rintro e wb ⟨rfl, ho2, hg2⟩
          have hg3 : w.grownBy wb (some g) := grown_trans (grown_trans hg hga) hg2
          have hp2 : wb.cell? ⟨xb, 1, none⟩ = some (.slice (some ⟨g, 0, none⟩) N cap) := hg2.cell hpa (by simp; omega)
          go_wp2
          go_roundw
          case rel =>
            exact ⟨j1, swapL ys k j1, by go_num, by omega, hp2, ho2, (swapL_perm ys k j1 (by have := HL.out; omega) (by have := HL.out; omega)).trans hperm.out, hD, fun x hx => by
              rw [el_swapL _ _ _ _ (by have := HL.out; omega) (by have := HL.out; omega), if_neg (by omega), if_neg (by omega)]; exact hfix.out x hx, hg3⟩
          case measure => simp [intOf]; omega
        · have hdd : decide (el ys j1 < el ys k) = false := by simpa using hls
          have hD := down_stop2 hd SM.out hls
          go_wp2
          go_ret
          exact ⟨_, rfl, ys, hoa, hperm.out, hD, hfix.out, grown_trans hg hga⟩
end Go.Proofs.Ybulkagkq
