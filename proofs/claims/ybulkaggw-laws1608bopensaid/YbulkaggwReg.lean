import Derived.Test.YbulkaggwSup
namespace Go.Proofs.Ybulkaggw
open Go.RowKit Go.ChangeMaps

/-- The new register: block rb, its map in block mb, the inner maps from block ib on. -/
structure RegAt (w : World) (rb mb ib cb n : Nat) : Prop where
  fe : w.cell? ⟨rb, 1, none⟩ = some (.slice none 0 0)
  fo : w.cell? ⟨rb, 2, none⟩ = some (.map (some mb))
  fb : w.cell? ⟨rb, 3, none⟩ = some (.slice none 0 0)
  fd : w.cell? ⟨rb, 4, none⟩ = some (.int .i64 0)
  map : w.heap[mb]? = some (.map (ents cb ib 0 n).toArray n)
  inner : ∀ i, i < n → w.heap[ib + i]? = some (.map #[] 0)

theorem RegAt.step {w w' : World} {rb mb ib cb k : Nat} (h : RegAt w rb mb ib cb k) (hsz : w.heap.size = ib + k) (hr : rb < w.heap.size) (hm : mb < w.heap.size) (hrm : rb ≠ mb) (hmi : mb < ib)
    (hw : w' = setBlock (w.alloc (.map #[] 0)).drew mb (.map (ents cb ib 0 (k + 1)).toArray (k + 1))) : RegAt w' rb mb ib cb (k + 1) := by
  subst hw
  have hb : (w.alloc (.map #[] 0)).drew.heap[mb]? = some (.map (ents cb ib 0 k).toArray k) := (Below.heap_alloc _ _ _ hm).trans h.map
  have hoth : ∀ i, i ≠ mb → (setBlock (w.alloc (.map #[] 0)).drew mb (.map (ents cb ib 0 (k + 1)).toArray (k + 1))).heap[i]? = (w.alloc (.map #[] 0)).heap[i]? := fun i hi => heap_setBlock_other hb _ hi
  have hcell : ∀ o, (setBlock (w.alloc (.map #[] 0)).drew mb (.map (ents cb ib 0 (k + 1)).toArray (k + 1))).cell? ⟨rb, o, none⟩ = w.cell? ⟨rb, o, none⟩ := fun o =>
    World.cell?_of_block (a := ⟨rb, o, none⟩) ((hoth rb hrm).trans (Below.heap_alloc _ _ _ hr))
  refine ⟨(hcell 1).trans h.fe, (hcell 2).trans h.fo, (hcell 3).trans h.fb, (hcell 4).trans h.fd, heap_setBlock_same hb _, fun i hi => ?_⟩
  rw [hoth _ (by omega)]
  by_cases e : i = k
  · subst e
    rw [← hsz]
    exact (MapKept.heap_alloc w _).1
  · rw [Below.heap_alloc _ _ _ (by omega)]
    exact h.inner i (by omega)

theorem below_setBlock {B : Nat} {a w : World} (h : Below B a w) {b : Nat} (hb : B ≤ b) (o : Obj) : Below B a (setBlock w b o) :=
  h.trans ⟨rfl, rfl, rfl, by simp [setBlock], fun k hk => by simp [setBlock, Array.getElem?_setIfInBounds]; omega⟩

set_option maxRecDepth 100000 in
set_option maxHeartbeats 400000 in
theorem reg_any (w : World) (cb0 : Nat) (ca sec : Option Addr) (n : Nat) (hn : n ≤ 1024) (hcl : 0 < n → ca = some ⟨cb0, 0, none⟩ ∧ cb0 < w.heap.size ∧ ClRow w cb0 n) :
    Calls Yba.prog 6 #[.agg #[.int .u64 0, .int .i64 0, .pointer none, .slice ca n n], .pointer sec] w fun e w' => ∃ rb mb ib, e = .returned (.pointer (some ⟨rb, 0, none⟩)) ∧ Below w.heap.size w w' ∧ RegAt w' rb mb ib cb0 n := by
  have hmm := @run_makeMap Yba.prog
  go_enter Yba.func6, Yba.ntmps6
  go_wp2_with fail
  refine (sup_any _ ca sec n hn ?_).mono ?_
  · intro h0
    obtain ⟨h1, h2, h3⟩ := hcl h0
    exact ⟨cb0, h1, by simp; omega, h3.of_block (Below.heap_alloc _ _ _ h2)⟩
  rintro e w1 ⟨sb, rfl, hb1⟩
  have hsz1 := hb1.size
  simp only [World.size_alloc] at hsz1
  have hcN := hb1.cell (p := ⟨w.heap.size, 3, none⟩) (by simp)
  rw [World.cell?_alloc_at _ _ _ _ rfl] at hcN
  simp at hcN
  have hlt1 : w.heap.size < w1.heap.size := by omega
  go_wp2
  clear hcN
  go_loopw [16] (fun i wr => ∃ k : Nat, k ≤ n ∧ i = .int .i64 k ∧ Below w.heap.size w wr ∧ wr.heap.size = w1.heap.size + 2 + k ∧ wr.cell? ⟨w.heap.size, 3, none⟩ = some (.slice ca n n) ∧
      RegAt wr (w1.heap.size + 1) w1.heap.size (w1.heap.size + 2) cb0 k) (fun i _ => n - (intOf i).toNat)
  case atStart =>
    have hbw : Below w.heap.size w w1 := ((Below.refl _ _).alloc (Nat.le_refl _) _).trans (hb1.mono (by simp))
    refine ⟨0, Nat.zero_le _, rfl, (hbw.alloc (by omega) _).alloc (by simp; omega) _, by simp, ?_, ?_⟩
    · rw [World.cell?_alloc_past _ _ _ (by simp; omega), World.cell?_alloc_past _ _ _ (by omega)]
      rw [hb1.cell (p := ⟨w.heap.size, 3, none⟩) (by simp), World.cell?_alloc_at _ _ _ _ rfl]
      rfl
    · refine ⟨?_, ?_, ?_, ?_, ?_, fun i hi => by omega⟩
      · rw [World.cell?_alloc_at _ _ _ _ (by simp)]; rfl
      · rw [World.cell?_alloc_at _ _ _ _ (by simp)]; rfl
      · rw [World.cell?_alloc_at _ _ _ _ (by simp)]; rfl
      · rw [World.cell?_alloc_at _ _ _ _ (by simp)]; rfl
      · rw [Below.heap_alloc _ _ _ (by simp)]
        exact (MapKept.heap_alloc w1 _).1
  case round =>
    obtain ⟨k, hk, rfl, hbel, hsz, hc3, hreg⟩ := hrel
    by_cases hlt : k < n
    · obtain ⟨rfl, hcb, hrow⟩ := hcl (by omega)
      have hfo := hreg.fo
      have hu := upd_run (wr.alloc (.map #[] 0)).drew w1.heap.size cb0 (w1.heap.size + 2) k ((Below.heap_alloc _ _ _ (by omega)).trans hreg.map)
      have hs0 : w.heap.size < w1.heap.size + 2 + k := by omega
      have hs1 : w1.heap.size + 1 < w1.heap.size + 2 + k := by omega
      go_wp2
      go_region
      go_wp2
      go_roundw
      case rel =>
        refine ⟨k + 1, by omega, by go_num, below_setBlock ((hbel.alloc (by omega) _).drew) (by omega) _, by simp [setBlock, hsz]; omega, ?_, hreg.step hsz (by omega) (by omega) (by omega) (by omega) rfl⟩
        have hb : (wr.alloc (.map #[] 0)).drew.heap[w1.heap.size]? = some (.map (ents cb0 (w1.heap.size + 2) 0 k).toArray k) := (Below.heap_alloc _ _ _ (by omega)).trans hreg.map
        exact (World.cell?_of_block (a := ⟨w.heap.size, 3, none⟩) ((heap_setBlock_other hb _ (by simp; omega)).trans (Below.heap_alloc _ _ _ (by simp; omega)))).trans hc3
      case measure => simp [intOf]; omega
    · go_wp2
      go_ret
      obtain rfl : k = n := by omega
      exact ⟨_, _, _, rfl, hbel, hreg⟩
end Go.Proofs.Ybulkaggw
