import Derived.Test.YbulkagkqDown
import Derived.Test.YbulkagkqAdd
import Derived.WalkSmall
namespace Go.Proofs.Ybulkagkq
open Go.RowKit Hp Go.Maps

set_option maxRecDepth 100000 in
set_option maxHeartbeats 400000 in
theorem pop_any (w : World) (xb base g cap m : Nat) (zs : List Int) (hp : w.cell? ⟨xb, 1, none⟩ = some (.slice (some ⟨g, 0, none⟩) (m + 1) cap)) (hf : w.frozen? ⟨xb, 1, none⟩ = false) (hN : zs.length = m + 1) (h : Owns w base (.slice (some ⟨g, 0, none⟩) (m + 1) cap) zs) (hb : xb < base) (hm : m ≤ 1024) :
    Calls Yba.prog 55 #[.pointer (some ⟨xb, 1, none⟩)] w fun e w' => e = .returned (.iface 22 (.int .u64 (el zs m))) ∧ w'.cell? ⟨xb, 1, none⟩ = some (.slice (some ⟨g, 0, none⟩) m cap) ∧ Owns w' base (.slice (some ⟨g, 0, none⟩) m cap) (zs.take m) ∧ Turn w w' xb none := by
  have hcm := h.cell m (by omega)
  have hcap : m + 1 ≤ cap := by
    rcases h.2 with ⟨h1, _⟩ | ⟨g', cap', cur, h1, _, _, h4, _⟩
    · cases h1
    · simp only [Value.slice.injEq] at h1; omega
  have HZ : Hid (zs.length = m + 1) := hN
  clear hN
  generalize el zs m = x at *
  go_enter Yba.func55, Yba.ntmps55
  go_wp2
  go_quiet (fail)
  go_wp2
  go_region
  go_wp2
  go_ret
  refine ⟨rfl, ?_, ?_, ?_⟩
  · exact World.cell?_setCell_same _ _ _ hp
  · have hz := HZ.out
    have e1 : zs.map (Value.int .u64) = (zs.take m).map (Value.int .u64) ++ (zs.drop m).map (Value.int .u64) := by rw [← List.map_append, List.take_append_drop]
    have h' : w.ownsRow base 22 1 (.slice (some ⟨g, 0, none⟩) (m + 1) cap) (m + 1) ((zs.take m).map (Value.int .u64) ++ (zs.drop m).map (Value.int .u64)) := by
      rw [← e1, ← hz]; rw [← hz] at h; exact h
    have h2 := ownsRow_pop (by simp; omega) h'
    have h3 : Owns (w.drewN (nq + 1)) base (.slice (some ⟨g, 0, none⟩) m cap) (zs.take m) := by
      have hlen : (zs.take m).length = m := by simp; omega
      unfold Owns; rw [hlen]; exact h2
    exact ownsRow_setCell_below h3 (a := ⟨xb, 1, none⟩) hb _
  · exact (Turn.of_grown (grown_drewN (World.grownBy.refl w none) (nq + 1)) (World.block_lt_of_cell? _ _ hp) (by simp)).set1 _

theorem take_succ_el' (L : List Int) (k : Nat) (hk : k < L.length) : L.take (k + 1) = L.take k ++ [el L k] := by
  rw [List.take_succ_eq_append_getElem hk]
  simp [el, hk]

theorem take_heap {zs : List Int} {m : Nat} (h : HeapN m zs) (hm : m ≤ zs.length) : HeapN (zs.take m).length (zs.take m) := by
  have hlen : (zs.take m).length = m := by simp; omega
  rw [hlen]
  have hel : ∀ k, k < m → el (zs.take m) k = el zs k := fun k hk => by simp [el, hk]
  intro k h0 hk
  rw [hel k hk, hel _ (by omega)]
  exact h k h0 hk

theorem take_last (zs : List Int) (m : Nat) (h : zs.length = m + 1) : zs.take m ++ [el zs m] = zs := by
  have := take_succ_el' zs m (by omega)
  rw [← this, List.take_of_length_le (by omega)]

set_option maxRecDepth 100000 in
set_option maxHeartbeats 400000 in
/-- container/heap.Pop -/
theorem hpop_any (w : World) (xb base g cap m : Nat) (zs : List Int) (hp : w.cell? ⟨xb, 1, none⟩ = some (.slice (some ⟨g, 0, none⟩) (m + 1) cap)) (hf : w.frozen? ⟨xb, 1, none⟩ = false) (hN : zs.length = m + 1) (h : Owns w base (.slice (some ⟨g, 0, none⟩) (m + 1) cap) zs) (hb : xb < base) (hbg : base ≤ g) (hm : m ≤ 1024) (hh : HeapN zs.length zs) :
    Calls Yba.prog 17 #[.iface 74 (.pointer (some ⟨xb, 1, none⟩))] w fun e w' => e = .returned (.iface 22 (.int .u64 (el zs 0))) ∧ ∃ zs', w'.cell? ⟨xb, 1, none⟩ = some (.slice (some ⟨g, 0, none⟩) m cap) ∧ Owns w' base (.slice (some ⟨g, 0, none⟩) m cap) zs' ∧ (zs' ++ [el zs 0]).Perm zs ∧ HeapN zs'.length zs' ∧ zs'.length = m ∧ Turn w w' xb (some g) := by
  have hxs : xb < w.heap.size := World.block_lt_of_cell? _ _ hp
  have hxg : some xb ≠ some g := by simp; omega
  have HZ : Hid (zs.length = m + 1) := hN
  clear hN
  have hml := meth_len w ⟨xb, 1, none⟩ _ hp
  have hms := meth_swap w ⟨xb, 1, none⟩ _ hp
  go_enter Yba.func17, Yba.ntmps17
  go_wp2_with fail
  refine (len_any w _ _ _).mono ?_
  rintro e w0 ⟨rfl, rfl⟩
  go_wp2_with fail
  refine (swap_n w0 base g cap (m + 1) zs 0 m HZ.out.symm h (by omega) (by omega)).mono ?_
  rintro e w1 ⟨rfl, ho1, hg1⟩
  have hp1 : w1.cell? ⟨xb, 1, none⟩ = some (.slice (some ⟨g, 0, none⟩) (m + 1) cap) := hg1.cell hp hxg
  go_wp2_with fail
  refine (down_any w1 xb base g cap (m + 1) m (swapL zs 0 m) hp1 (by rw [swapL_length]; exact HZ.out.symm) ho1 hb hbg (by omega) (by omega) (down_pop HZ.out hh)).mono ?_
  rintro e w2 ⟨bb, rfl, ys, ho2, hperm, hheap, hfix, hg2⟩
  have hp2 : w2.cell? ⟨xb, 1, none⟩ = some (.slice (some ⟨g, 0, none⟩) (m + 1) cap) := hg2.cell hp1 hxg
  have hg12 := grown_trans hg1 hg2
  have hf2 : w2.frozen? ⟨xb, 1, none⟩ = false := (World.frozen?_of_block (a := ⟨xb, 1, none⟩) (hg12.block xb hxs hxg)).trans hf
  have hlz := HZ.out
  have hlen : ys.length = m + 1 := by rw [hperm.length_eq, swapL_length]; exact HZ.out
  have HLY : Hid (ys.length = m + 1) := hlen
  have hlast : el ys m = el zs 0 := by
    rw [hfix m (Nat.le_refl _), el_swapL _ _ _ _ (by omega) (by omega), if_pos rfl]
  have HLA : Hid (el ys m = el zs 0) := hlast
  clear hlen hlast hlz hfix
  have hmp := meth_pop w2 xb 1
  go_wp2_with fail
  refine (pop_any w2 xb base g cap m ys hp2 hf2 HLY.out ho2 hb hm).mono ?_
  rintro e w3 ⟨rfl, hp3, ho3, ht3⟩
  go_wp2
  go_ret
  have hly := HLY.out
  have hlz := HZ.out
  refine ⟨by rw [HLA.out]; rfl, ys.take m, hp3, ho3, ?_, take_heap hheap (by omega), by simp; omega, ?_⟩
  · rw [← HLA.out, take_last ys m hly]
    exact hperm.trans (swapL_perm zs 0 m (by omega) (by omega))
  · exact (Turn.of_grown hg12 hxs hxg).trans ht3 (fun j hj => by cases hj)
end Go.Proofs.Ybulkagkq
