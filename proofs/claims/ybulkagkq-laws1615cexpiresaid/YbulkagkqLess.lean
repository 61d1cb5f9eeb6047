import Derived.Test.YbulkagkqRows
import Derived.Test.YbulkagkqHp
import Derived.WalkKit
import Derived.ProofKit
import Derived.BigQuiet
import Derived.Deep.QuietTactic
namespace Go.Proofs.Ybulkagkq
open Go.RowKit Hp

/-- the slice value v holds the times zs -/
abbrev Owns (w : World) (base : Nat) (v : Value) (zs : List Int) : Prop := w.ownsRow base 22 1 v zs.length (zs.map (Value.int .u64))

theorem Owns.shape {w : World} {base : Nat} {v : Value} {zs : List Int} (h : Owns w base v zs) : (v = .slice none 0 0 ∧ zs = []) ∨ ∃ g cap, v = .slice (some ⟨g, 0, none⟩) zs.length cap ∧ base ≤ g ∧ zs.length ≤ cap ∧ cap ≤ maxLen := by
  rcases h.2 with ⟨h1, h2⟩ | ⟨g, cap, cur, h1, h2, h3, h4, h5, h6, h7⟩
  · exact .inl ⟨h1, List.eq_nil_of_length_eq_zero h2⟩
  · exact .inr ⟨g, cap, h1, h2, h4, h5⟩

theorem grown_trans {a b c : World} {row : Option Nat} (h : a.grownBy b row) (k : b.grownBy c row) : a.grownBy c row :=
  ⟨k.os.trans h.os, k.tape.trans h.tape, k.output.trans h.output, Nat.le_trans h.size k.size, fun i hi hne => (k.block i (Nat.lt_of_lt_of_le hi h.size) hne).trans (h.block i hi hne)⟩

theorem grown_drewN {a b : World} {row : Option Nat} (h : a.grownBy b row) (q : Nat) : a.grownBy (b.drewN q) row := ⟨h.os, h.tape, h.output, h.size, h.block⟩

set_option maxRecDepth 100000 in
theorem less_any (w : World) (base g cap : Nat) (zs : List Int) (i j : Nat) (h : Owns w base (.slice (some ⟨g, 0, none⟩) zs.length cap) zs) (hi : i < zs.length) (hj : j < zs.length) :
    Calls Yba.prog 52 #[.slice (some ⟨g, 0, none⟩) zs.length cap, .int .i64 i, .int .i64 j] w fun e w' => e = .returned (.bool (decide (el zs i < el zs j))) ∧ ∃ q, w' = w.drewN q := by
  have hc : ∀ k, k < zs.length → w.cell? ⟨g, k, none⟩ = some (.int .u64 (el zs k)) := fun k hk => by
    rw [World.ownsRow.cellAt h k (by omega)]
    simp [el, hk]
  have ci := hc i hi
  have cj := hc j hj
  clear hc
  generalize zs.length = n at *
  generalize el zs i = a at *
  generalize el zs j = b at *
  clear h
  go_enter Yba.func52, Yba.ntmps52
  go_wp2
  go_quiet (fail)
  go_wp2
  go_ret
  exact ⟨rfl, _, rfl⟩

set_option maxRecDepth 100000 in
theorem swap_ne (w : World) (g n cap i j : Nat) (a b : Int) (ci : w.cell? ⟨g, i, none⟩ = some (.int .u64 a)) (cj : w.cell? ⟨g, j, none⟩ = some (.int .u64 b)) (fi : w.frozen? ⟨g, i, none⟩ = false) (fj : w.frozen? ⟨g, j, none⟩ = false) (hi : i < n) (hj : j < n) (hij : i ≠ j) :
    Calls Yba.prog 53 #[.slice (some ⟨g, 0, none⟩) n cap, .int .i64 i, .int .i64 j] w fun e w' => e = .returned (.tuple #[]) ∧ ∃ q, w' = ((w.setCell ⟨g, i, none⟩ (.int .u64 b)).setCell ⟨g, j, none⟩ (.int .u64 a)).drewN q := by
  have hij' : ¬ j = i := by omega
  go_enter Yba.func53, Yba.ntmps53
  go_wp2
  go_region
  go_end0
  exact ⟨rfl, 1, rfl⟩

set_option maxRecDepth 100000 in
theorem swap_eq (w : World) (g n cap i : Nat) (a : Int) (ci : w.cell? ⟨g, i, none⟩ = some (.int .u64 a)) (fi : w.frozen? ⟨g, i, none⟩ = false) (hi : i < n) :
    Calls Yba.prog 53 #[.slice (some ⟨g, 0, none⟩) n cap, .int .i64 i, .int .i64 i] w fun e w' => e = .returned (.tuple #[]) ∧ ∃ q, w' = ((w.setCell ⟨g, i, none⟩ (.int .u64 a)).setCell ⟨g, i, none⟩ (.int .u64 a)).drewN q := by
  go_enter Yba.func53, Yba.ntmps53
  go_wp2
  go_region
  go_end0
  exact ⟨rfl, 1, rfl⟩

theorem Owns.cell {w : World} {base g cap n : Nat} {zs : List Int} (h : Owns w base (.slice (some ⟨g, 0, none⟩) n cap) zs) (k : Nat) (hk : k < zs.length) : w.cell? ⟨g, k, none⟩ = some (.int .u64 (el zs k)) := by
  obtain rfl : n = zs.length := by
    rcases h.2 with ⟨h1, _⟩ | ⟨g', cap', cur, h1, _⟩
    · cases h1
    · cases h1; rfl
  rw [World.ownsRow.cellAt h k (by omega)]
  simp [el, hk]

theorem swap_any (w : World) (base g cap : Nat) (zs : List Int) (i j : Nat) (h : Owns w base (.slice (some ⟨g, 0, none⟩) zs.length cap) zs) (hi : i < zs.length) (hj : j < zs.length) :
    Calls Yba.prog 53 #[.slice (some ⟨g, 0, none⟩) zs.length cap, .int .i64 i, .int .i64 j] w fun e w' => e = .returned (.tuple #[]) ∧ Owns w' base (.slice (some ⟨g, 0, none⟩) zs.length cap) (swapL zs i j) ∧ w.grownBy w' (some g) := by
  have fin : ∀ q, Owns (((w.setCell ⟨g, i, none⟩ (.int .u64 (el zs j))).setCell ⟨g, j, none⟩ (.int .u64 (el zs i))).drewN q) base (.slice (some ⟨g, 0, none⟩) zs.length cap) (swapL zs i j) ∧ w.grownBy (((w.setCell ⟨g, i, none⟩ (.int .u64 (el zs j))).setCell ⟨g, j, none⟩ (.int .u64 (el zs i))).drewN q) (some g) := by
    intro q
    obtain ⟨o1, g1⟩ := World.ownsRow.stored h i (.int .u64 (el zs j))
    obtain ⟨o2, g2⟩ := World.ownsRow.stored o1 j (.int .u64 (el zs i))
    have e1 : ((zs.map (Value.int .u64)).set i (.int .u64 (el zs j))).set j (.int .u64 (el zs i)) = (swapL zs i j).map (Value.int .u64) := by
      simp [swapL, List.map_set]
    rw [e1] at o2
    have gg := grown_trans g1 g2
    refine ⟨?_, ⟨gg.os, gg.tape, gg.output, gg.size, gg.block⟩⟩
    unfold Owns
    rw [swapL_length]
    exact o2
  by_cases e : i = j
  · subst e
    refine (swap_eq w g zs.length cap i (el zs i) (h.cell i hi) (World.ownsRow.frozenAt h i) hi).mono ?_
    rintro e w' ⟨rfl, q, rfl⟩
    exact ⟨rfl, fin q⟩
  · refine (swap_ne w g zs.length cap i j (el zs i) (el zs j) (h.cell i hi) (h.cell j hj) (World.ownsRow.frozenAt h i) (World.ownsRow.frozenAt h j) hi hj e).mono ?_
    rintro e w' ⟨rfl, q, rfl⟩
    exact ⟨rfl, fin q⟩
end Go.Proofs.Ybulkagkq
