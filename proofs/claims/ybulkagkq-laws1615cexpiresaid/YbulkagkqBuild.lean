import Derived.Test.YbulkagkqOcc
namespace Go.Proofs.Ybulkagkq
open Go.RowKit Hp Go.Maps

/-- the expiries behind k adds -/
def Built (w : World) (xb : Nat) (L : List Int) (k : Nat) : Prop :=
  (k = 0 ∧ w.cell? ⟨xb, 0, none⟩ = some (.map none) ∧ w.cell? ⟨xb, 1, none⟩ = some (.slice none 0 0) ∧ (∀ o, w.frozen? ⟨xb, o, none⟩ = false) ∧ xb < w.heap.size) ∨
  (0 < k ∧ ∃ cb v zs, ExpS w xb cb v (fun y => (L.take k).count y) zs ∧ HeapN zs.length zs ∧ zs.Nodup ∧ (∀ y, y ∈ zs ↔ y ∈ L.take k) ∧ zs.length = dcTo L k)

theorem upd_count (L : List Int) (k : Nat) (hk : k < L.length) : upd (fun y => (L.take k).count y) (el L k) ((L.take k).count (el L k) + 1) = fun y => (L.take (k + 1)).count y := by
  funext y
  rw [take_succ_el L k hk, List.count_append, List.count_singleton]
  unfold upd
  by_cases e : y = el L k
  · subst e; simp
  · rw [if_neg e, if_neg (by simpa using fun h => e h.symm)]; rfl

set_option maxRecDepth 100000 in
set_option maxHeartbeats 400000 in
theorem build_any (w : World) (a : Option Addr) (len cap : Nat) (L : List Int) (h : Inp w a len L) (hl : len ≤ 1024) :
    Calls Yba.prog 10 #[.slice a len cap] w fun e w' => e = .returned (.pointer (some ⟨w.heap.size, 0, none⟩)) ∧ Below w.heap.size w w' ∧ Built w' w.heap.size L len := by
  go_enter Yba.func10, Yba.ntmps10
  go_wp2
  go_loopw [10] (fun i wr => ∃ k : Nat, k ≤ len ∧ i = .int .i64 k ∧ Below w.heap.size w wr ∧ Built wr w.heap.size L k) (fun i _ => len - (intOf i).toNat)
  case atStart =>
    refine ⟨0, Nat.zero_le _, rfl, (Below.refl _ _).alloc (Nat.le_refl _) _, .inl ⟨rfl, ?_, ?_, fun o => World.frozen?_alloc_at _ _ _ _ rfl, by simp⟩⟩
    · rw [World.cell?_alloc_at _ _ _ _ rfl]; rfl
    · rw [World.cell?_alloc_at _ _ _ _ rfl]; rfl
  case round =>
    obtain ⟨k, hk, rfl, hbel, hB⟩ := hrel
    by_cases hlt : k < len
    · obtain ⟨b, off, rfl, hb, hc⟩ := h.at' (by omega)
      have hck : wr.cell? ⟨b, off + k, none⟩ = some (.int .u64 (el L k)) := (hbel.cell (p := ⟨b, off + k, none⟩) hb).trans (hc k hlt)
      have hU := h.uel hlt
      have hkL : k < L.length := by rw [h.hlen]; exact hlt
      rcases hB with ⟨rfl, b0, b1, bf, bx⟩ | ⟨hk0, cb, v, zs, hS, hH, hN, hM, hZ⟩
      · have HF : Hid (upd (fun y => (L.take 0).count y) (el L 0) ((L.take 0).count (el L 0) + 1) = fun y => (L.take (0 + 1)).count y) := upd_count L 0 hkL
        have HT : Hid (L.take (0 + 1) = L.take 0 ++ [el L 0]) := take_succ_el L 0 hkL
        have HD : Hid (dcTo L 1 = 1) := by show dcTo L 1 = 1; simp [dcTo]
        rw [Nat.add_zero] at hck
        generalize el L 0 = x at *
        go_wp2_with fail
        refine (add_nil wr w.heap.size x b0 b1 bf hU bx).mono ?_
        rintro e w1 ⟨rfl, cb, v, hS, hb1⟩
        go_wp2
        go_roundw
        case rel =>
          refine ⟨1, by omega, by go_num, hbel.trans hb1, .inr ⟨by omega, cb, v, [x], ?_, ?_, by simp, ?_, by rw [HD.out]; rfl⟩⟩
          · have := HF.out
            simp only [Nat.zero_add] at this
            rw [← this]
            simpa using hS
          · intro j h1 h2; simp at h2; omega
          · intro y
            have := HT.out
            simp only [Nat.zero_add] at this
            rw [this]; simp
        case measure => simp [intOf]; omega
      · have HF : Hid (upd (fun y => (L.take k).count y) (el L k) ((L.take k).count (el L k) + 1) = fun y => (L.take (k + 1)).count y) := upd_count L k hkL
        have HT : Hid (L.take (k + 1) = L.take k ++ [el L k]) := take_succ_el L k hkL
        have HD : Hid (dcTo L (k + 1) = dcTo L k + if (L.take k).count (el L k) = 0 then 1 else 0) := rfl
        have hcb := count_bound L k (el L k)
        have hdb := dcTo_le L k
        have HZ : Hid (zs.length = dcTo L k) := hZ
        have hzl : zs.length ≤ 1024 := by omega
        clear hZ
        generalize el L k = x at *
        go_wp2_with fail
        refine (add_some wr w.heap.size cb v _ zs x hS hU (by omega) hzl hH).mono ?_
        rintro e w1 ⟨rfl, v', zs', hS', hH', hp1, hp2, hb1⟩
        have HP1 : Hid ((L.take k).count x = 0 → zs'.Perm (zs ++ [x])) := hp1
        have HP2 : Hid ((L.take k).count x ≠ 0 → zs' = zs) := hp2
        clear hp1 hp2
        go_wp2
        go_roundw
        case rel =>
          have hcx : (L.take k).count x = 0 ↔ x ∉ L.take k := List.count_eq_zero
          refine ⟨k + 1, by omega, by go_num, hbel.trans hb1, .inr ⟨by omega, cb, v', zs', ?_, hH', ?_, ?_, ?_⟩⟩
          · rw [← HF.out]; exact hS'
          · by_cases e : (L.take k).count x = 0
            · have hp := HP1.out e
              have hx : x ∉ zs := fun hx => hcx.1 e ((hM x).1 hx)
              refine hp.nodup_iff.2 ?_
              rw [List.nodup_append]
              refine ⟨hN, by simp, ?_⟩
              intro y hy z hz
              simp at hz
              subst hz
              exact fun e' => hx (e' ▸ hy)
            · rw [HP2.out e]; exact hN
          · intro y
            rw [HT.out]
            by_cases e : (L.take k).count x = 0
            · rw [(HP1.out e).mem_iff]; simp [hM y]
            · rw [HP2.out e, hM y]
              simp only [List.mem_append, List.mem_singleton]
              constructor
              · exact .inl
              · rintro (h' | rfl)
                · exact h'
                · exact List.count_pos_iff.1 (by omega)
          · rw [HD.out, ← HZ.out]
            by_cases e : (L.take k).count x = 0
            · rw [(HP1.out e).length_eq, if_pos e]; simp
            · rw [HP2.out e, if_neg e]; rfl
        case measure => simp [intOf]; omega
    · go_wp2
      go_ret
      obtain rfl : k = len := by omega
      exact ⟨rfl, hbel, hB⟩
end Go.Proofs.Ybulkagkq
