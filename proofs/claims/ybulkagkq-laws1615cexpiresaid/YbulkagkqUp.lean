import Derived.Test.YbulkagkqMeth
namespace Go.Proofs.Ybulkagkq
open Go.RowKit Hp

theorem less_n (w : World) (base g cap n : Nat) (zs : List Int) (i j : Nat) (hn : n = zs.length) (h : Owns w base (.slice (some ⟨g, 0, none⟩) n cap) zs) (hi : i < n) (hj : j < n) :
    Calls Yba.prog 52 #[.slice (some ⟨g, 0, none⟩) n cap, .int .i64 i, .int .i64 j] w fun e w' => e = .returned (.bool (decide (el zs i < el zs j))) ∧ ∃ q, w' = w.drewN q := by
  subst hn; exact less_any w base g cap zs i j h hi hj
theorem swap_n (w : World) (base g cap n : Nat) (zs : List Int) (i j : Nat) (hn : n = zs.length) (h : Owns w base (.slice (some ⟨g, 0, none⟩) n cap) zs) (hi : i < n) (hj : j < n) :
    Calls Yba.prog 53 #[.slice (some ⟨g, 0, none⟩) n cap, .int .i64 i, .int .i64 j] w fun e w' => e = .returned (.tuple #[]) ∧ Owns w' base (.slice (some ⟨g, 0, none⟩) n cap) (swapL zs i j) ∧ w.grownBy w' (some g) := by
  subst hn; exact swap_any w base g cap zs i j h hi hj
theorem Owns.drewN {w : World} {base : Nat} {v : Value} {zs : List Int} (h : Owns w base v zs) (q : Nat) : Owns (w.drewN q) base v zs := h

set_option maxRecDepth 100000 in
set_option maxHeartbeats 400000 in
theorem up_any (w : World) (xb base g cap n : Nat) (zs : List Int) (j : Nat) (hp : w.cell? ⟨xb, 1, none⟩ = some (.slice (some ⟨g, 0, none⟩) n cap)) (hn : n = zs.length) (h : Owns w base (.slice (some ⟨g, 0, none⟩) n cap) zs) (hb : xb < base) (hbg : base ≤ g) (hm : n ≤ 2000) (hu : UpInv zs j) :
    Calls Yba.prog 31 #[.iface 74 (.pointer (some ⟨xb, 1, none⟩)), .int .i64 j] w fun e w' => e = .returned (.tuple #[]) ∧ ∃ zs', Owns w' base (.slice (some ⟨g, 0, none⟩) n cap) zs' ∧ zs'.Perm zs ∧ HeapN zs'.length zs' ∧ w.grownBy w' (some g) := by
  have HN : Hid (n = zs.length) := hn
  clear hn
  have hj := hu.lt
  go_enter Yba.func31, Yba.ntmps31
  go_wp2
  go_loopw [1] (fun i wr => ∃ (k : Nat) (ys : List Int), i = .int .i64 k ∧ k < n ∧ wr.cell? ⟨xb, 1, none⟩ = some (.slice (some ⟨g, 0, none⟩) n cap) ∧ Owns wr base (.slice (some ⟨g, 0, none⟩) n cap) ys ∧ Hid (ys.Perm zs) ∧ UpInv ys k ∧ w.grownBy wr (some g)) (fun i _ => (intOf i).toNat)
  case atStart => exact ⟨j, zs, rfl, by rw [HN.out]; exact hj, hp, h, List.Perm.refl _, hu, World.grownBy.refl _ _⟩
  case round =>
    clear hp h hu
    obtain ⟨k, ys, rfl, hkn, hp, h, hperm, hu, hg⟩ := hrel
    by_cases hk0 : k = 0
    · subst hk0
      go_wp2
      go_end0
      exact ⟨rfl, ys, h, hperm.out, up_stop hu (.inl rfl), hg⟩
    · have hne : (((k : Int) - 1) / 2 == (k : Int)) = false := beq_eq_false_iff_ne.2 (by omega)
      have hml := meth_less wr ⟨xb, 1, none⟩ _ hp
      obtain ⟨p, hpk⟩ : ∃ p : Nat, ((k : Int) - 1) / 2 = (p : Int) := ⟨(k - 1) / 2, by omega⟩
      have HP : Hid (p = (k - 1) / 2) := by show p = (k - 1) / 2; omega
      have hpk' : p < k := by omega
      have hlen : n = ys.length := HN.out.trans hperm.out.length_eq.symm
      have HL : Hid (n = ys.length) := hlen
      clear hlen
      have HB : Hid (((p : Int) == (k : Int)) = false) := beq_eq_false_iff_ne.2 (by omega)
      go_wp2_with fail
      refine (less_n wr base g cap n ys k p HL.out h hkn (by omega)).mono ?_
      rintro e w1 ⟨rfl, q, rfl⟩
      have hb1 := HB.out
      by_cases hls : el ys k < el ys p
      · have hms := meth_swap (wr.drewN q) ⟨xb, 1, none⟩ _ hp
        go_wp2_with fail
        refine (swap_n (wr.drewN q) base g cap n ys p k HL.out (h.drewN q) (by omega) hkn).mono ?_
        rintro e w2 ⟨rfl, ho2, hg2⟩
        have hg3 : wr.grownBy w2 (some g) := grown_trans (grown_drewN (World.grownBy.refl _ _) q) hg2
        have hp2 : w2.cell? ⟨xb, 1, none⟩ = some (.slice (some ⟨g, 0, none⟩) n cap) := hg3.cell hp (by simp; omega)
        go_wp2
        go_roundw
        case rel =>
          refine ⟨p, swapL ys p k, rfl, by omega, hp2, ho2, (swapL_perm ys p k (by have := HL.out; omega) (by have := HL.out; omega)).trans hperm.out, ?_, grown_trans hg hg3⟩
          have := up_step hu (by omega) (by rw [← HP.out]; exact hls)
          rw [← HP.out] at this
          exact this
        case measure => simp [intOf]; omega
      · have hd : decide (el ys k < el ys p) = false := by simpa using hls
        go_wp2
        go_end0
        exact ⟨rfl, ys, h.drewN q, hperm.out, up_stop hu (.inr (by rw [← HP.out]; omega)), grown_drewN hg q⟩
end Go.Proofs.Ybulkagkq
