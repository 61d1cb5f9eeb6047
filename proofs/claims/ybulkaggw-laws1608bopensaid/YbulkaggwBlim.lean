import Derived.Test.YbulkaggwRows
import Derived.WalkKit
import Derived.ProofKit
import Derived.BigQuiet
import Derived.Deep.QuietTactic
import Derived.WalkSpells
import Derived.Deep.OwnRows
import Derived.Laws.IdiomCopy
namespace Go.Proofs.Ybulkaggw
open Go.RowKit
theorem Yba.info48 : (Yba.prog.info? 48).map (fun i => (i.zero, i.size, i.bytes)) = some (some (.agg #[.string ⟨#[]⟩, .slice none 0 0, .string ⟨#[]⟩, .string ⟨#[]⟩, .pointer none, .pointer none, .int .i64 0]), 7, 96) := by kernel_rfl

theorem nil22 (a : Option Addr) (l c : Nat) (w : World) : (binOp .neq 22 (.slice a l c) (.slice none 0 0)).run Yba.prog w = .ok (.bool (!a.isNone)) w := run_neq_slice_nil_any w 22 9 a l c 0 0 Yba.underlying22

def zeroCl : Array Value := #[.string ⟨#[]⟩, .slice none 0 0, .string ⟨#[]⟩, .string ⟨#[]⟩, .pointer none, .pointer none, .int .i64 0]
theorem make27 (n : Nat) (h : n ≤ 1024) (w : World) : (Instr.makeSlice 27 (.int .i64 (n : Int)) (.int .i64 (n : Int))).run Yba.prog w = .ok (.slice (some ⟨w.heap.size, 0, none⟩) n n) (w.alloc (.cells (madeCells zeroCl (n * 7)) 48)) := by
  obtain ⟨i, hi, hz0, hz1, hz2⟩ := info_parts Yba.info48
  have hr := run_make (P := Yba.prog) w 27 48 i _ Yba.underlying27 hi hz0 .i64 .i64 n n (by omega) (Int.le_refl _) (by rw [hz2]; omega) (by omega)
  simp only [Int.toNat_natCast, hz1] at hr
  exact hr

/-- the row of clauses -/
structure ClRow (w : World) (cb n : Nat) : Prop where
  row : ∀ i, i < n → ∃ s : ByteArray, w.cell? ⟨cb, i * 7, none⟩ = some (.string s) ∧ w.cell? ⟨cb, i * 7 + 1, none⟩ = some (.slice none 0 0) ∧ w.cell? ⟨cb, i * 7 + 2, none⟩ = some (.string s) ∧ w.cell? ⟨cb, i * 7 + 3, none⟩ = some (.string ⟨#[]⟩) ∧
    w.cell? ⟨cb, i * 7 + 4, none⟩ = some (.pointer none) ∧ w.cell? ⟨cb, i * 7 + 5, none⟩ = some (.pointer none) ∧ w.cell? ⟨cb, i * 7 + 6, none⟩ = some (.int .i64 0)
  free : ∀ o, w.frozen? ⟨cb, o, none⟩ = false

theorem ClRow.of_block {w w' : World} {cb n : Nat} (h : ClRow w cb n) (hb : w'.heap[cb]? = w.heap[cb]?) : ClRow w' cb n := by
  have hc : ∀ o, w'.cell? ⟨cb, o, none⟩ = w.cell? ⟨cb, o, none⟩ := fun o => World.cell?_of_block (a := ⟨cb, o, none⟩) hb
  refine ⟨fun i hi => ?_, fun o => (World.frozen?_of_block (a := ⟨cb, o, none⟩) hb).trans (h.free o)⟩
  simp only [hc]
  exact h.row i hi

theorem ClRow.put {w : World} {cb n : Nat} (h : ClRow w cb n) {k : Nat} (hk : k < n) (s : ByteArray) :
    ClRow (w.setCells cb (k * 7) [.string s, .slice none 0 0, .string s, .string ⟨#[]⟩, .pointer none, .pointer none, .int .i64 0]) cb n := by
  refine ⟨fun i hi => ?_, fun o => by rw [World.frozen?_setCells]; exact h.free o⟩
  by_cases e : i = k
  · subst e
    obtain ⟨s0, r0, r1, r2, r3, r4, r5, r6⟩ := h.row i hi
    have hin := World.cell?_setCells_in cb [.string s, .slice none 0 0, .string s, .string ⟨#[]⟩, .pointer none, .pointer none, .int .i64 0] (i * 7) w (by
      intro j hj
      match j, hj with
      | 0, _ => simp [r0]
      | 1, _ => simp [r1]
      | 2, _ => simp [r2]
      | 3, _ => simp [r3]
      | 4, _ => simp [r4]
      | 5, _ => simp [r5]
      | 6, _ => simp [r6]
      | j + 7, hj => exact absurd hj (by simp))
    exact ⟨s, hin 0 (by simp), hin 1 (by simp), hin 2 (by simp), hin 3 (by simp), hin 4 (by simp), hin 5 (by simp), hin 6 (by simp)⟩
  · have hout : ∀ j, j < 7 → (w.setCells cb (k * 7) [.string s, .slice none 0 0, .string s, .string ⟨#[]⟩, .pointer none, .pointer none, .int .i64 0]).cell? ⟨cb, i * 7 + j, none⟩ = w.cell? ⟨cb, i * 7 + j, none⟩ := fun j hj =>
      World.cell?_setCells_out cb _ (k * 7) w _ (fun _ _ => by simp; omega)
    obtain ⟨s0, r0, r1, r2, r3, r4, r5, r6⟩ := h.row i hi
    exact ⟨s0, (hout 0 (by omega)).trans r0, (hout 1 (by omega)).trans r1, (hout 2 (by omega)).trans r2, (hout 3 (by omega)).trans r3, (hout 4 (by omega)).trans r4, (hout 5 (by omega)).trans r5, (hout 6 (by omega)).trans r6⟩

theorem madeCell (z : Array Value) (n i j : Nat) (hz : z.size = 7) (hi : i < n) (hj : j < 7) (v : Value) (hv : z[j]! = v) : (madeCells z (n * 7))[i * 7 + j]? = some v := by
  have h1 : i * 7 + j < n * 7 := by omega
  simp only [madeCells, hz]
  rw [Array.getElem?_map, Array.getElem?_eq_getElem (by simpa using h1)]
  simp only [Array.getElem_range, Option.map_some]
  rw [show (i * 7 + j) % 7 = j by omega, hv]

theorem ClRow.made (w : World) (n : Nat) : ClRow (w.alloc (.cells (madeCells zeroCl (n * 7)) 48)) w.heap.size n := by
  refine ⟨fun i hi => ⟨⟨#[]⟩, ?_⟩, fun o => World.frozen?_alloc_at _ _ _ _ rfl⟩
  have hc : ∀ j, j < 7 → ∀ v, zeroCl[j]! = v → (w.alloc (.cells (madeCells zeroCl (n * 7)) 48)).cell? ⟨w.heap.size, i * 7 + j, none⟩ = some v := fun j hj v hv => by
    rw [World.cell?_alloc_at _ _ _ _ rfl]
    exact madeCell zeroCl n i j rfl hi hj v hv
  exact ⟨hc 0 (by omega) _ rfl, hc 1 (by omega) _ rfl, hc 2 (by omega) _ rfl, hc 3 (by omega) _ rfl, hc 4 (by omega) _ rfl, hc 5 (by omega) _ rfl, hc 6 (by omega) _ rfl⟩

/-- the new block of a struct fund.Limits, as first laid -/
structure LimVar (w : World) (lb : Nat) : Prop where
  c0 : w.cell? ⟨lb, 0, none⟩ = some (.int .u64 0)
  c1 : w.cell? ⟨lb, 1, none⟩ = some (.int .i64 0)
  c2 : w.cell? ⟨lb, 2, none⟩ = some (.pointer none)
  c3 : w.cell? ⟨lb, 3, none⟩ = some (.slice none 0 0)
  free : ∀ o, w.frozen? ⟨lb, o, none⟩ = false

theorem LimVar.of_block {w w' : World} {lb : Nat} (h : LimVar w lb) (hb : w'.heap[lb]? = w.heap[lb]?) : LimVar w' lb := by
  have hc : ∀ o, w'.cell? ⟨lb, o, none⟩ = w.cell? ⟨lb, o, none⟩ := fun o => World.cell?_of_block (a := ⟨lb, o, none⟩) hb
  exact ⟨(hc 0).trans h.c0, (hc 1).trans h.c1, (hc 2).trans h.c2, (hc 3).trans h.c3, fun o => (World.frozen?_of_block (a := ⟨lb, o, none⟩) hb).trans (h.free o)⟩

theorem heap_setCells (b : Nat) : ∀ (vs : List Value) (o : Nat) (w : World) (k : Nat), k ≠ b → (w.setCells b o vs).heap[k]? = w.heap[k]?
  | [], _, _, _, _ => rfl
  | v :: r, o, w, k, h => by
    rw [World.setCells, heap_setCells b r (o + 1) _ k h]
    exact Below.heap_setCell _ _ _ _ (by simpa using h)

theorem below_setCells {B : Nat} {a w : World} (h : Below B a w) (b : Nat) (hp : B ≤ b) : ∀ (vs : List Value) (o : Nat), Below B a (w.setCells b o vs) := by
  intro vs
  induction vs generalizing w with
  | nil => intro o; exact h
  | cons v r ih => intro o; exact ih (h.setCell (p := ⟨b, o, none⟩) hp v) (o + 1)

theorem size_setCells (b : Nat) : ∀ (vs : List Value) (o : Nat) (w : World), (w.setCells b o vs).heap.size = w.heap.size
  | [], _, _ => rfl
  | v :: r, o, w => by rw [World.setCells, size_setCells b r (o + 1)]; simp

theorem chain7 (w : World) (b o : Nat) (a0 a1 a2 a3 a4 a5 a6 : Value) : w.setCells b o [a0, a1, a2, a3, a4, a5, a6] =
    ((((((w.setCell ⟨b, o, none⟩ a0).setCell ⟨b, o + 1, none⟩ a1).setCell ⟨b, o + 2, none⟩ a2).setCell ⟨b, o + 3, none⟩ a3).setCell ⟨b, o + 4, none⟩ a4).setCell ⟨b, o + 5, none⟩ a5).setCell ⟨b, o + 6, none⟩ a6 := rfl
theorem ClRow.drew {w : World} {cb n : Nat} (h : ClRow w cb n) : ClRow w.drew cb n := h.of_block rfl
theorem LimVar.drew {w : World} {lb : Nat} (h : LimVar w lb) : LimVar w.drew lb := h.of_block rfl

set_option maxRecDepth 100000 in
set_option maxHeartbeats 400000 in
theorem blim_some (w : World) (b off len cap : Nat) (ss : List ByteArray) (hl : len ≤ 1024) (hb : b < w.heap.size) (hc : ∀ j, j < len → w.cell? ⟨b, off + j, none⟩ = some (.string (ss.getD j ByteArray.empty))) :
    Calls Yba.prog 5 #[.slice (some ⟨b, off, none⟩) len cap] w fun e w' => e = .returned (.agg #[.int .u64 0, .int .i64 0, .pointer none, .slice (some ⟨w.heap.size + 1, 0, none⟩) len len]) ∧ Below w.heap.size w w' ∧ w'.heap.size = w.heap.size + 2 ∧ ClRow w' (w.heap.size + 1) len := by
  have e1 := nil22
  have e2 := make27 len hl
  go_enter Yba.func5, Yba.ntmps5
  go_wp2
  clear e1 e2
  go_loopw [4] (fun i wr => ∃ k : Nat, k ≤ len ∧ i = .int .i64 k ∧ Below w.heap.size w wr ∧ wr.heap.size = w.heap.size + 2 ∧ ClRow wr (w.heap.size + 1) len ∧ LimVar wr w.heap.size)
    (fun i _ => len - (intOf i).toNat)
  case atStart =>
    refine ⟨0, Nat.zero_le _, rfl, ((Below.refl _ _).alloc (Nat.le_refl _) _).alloc (by simp) _, by simp, ?_, ?_⟩
    · simpa using ClRow.made (w.alloc (.cells #[.int .u64 0, .int .i64 0, .pointer none, .slice none 0 0] 29)) len
    · have h0 : LimVar (w.alloc (.cells #[.int .u64 0, .int .i64 0, .pointer none, .slice none 0 0] 29)) w.heap.size := by
        refine ⟨?_, ?_, ?_, ?_, fun o => World.frozen?_alloc_at _ _ _ _ rfl⟩ <;> rw [World.cell?_alloc_at _ _ _ _ rfl] <;> rfl
      exact h0.of_block (Below.heap_alloc _ _ _ (by simp))
  case round =>
    obtain ⟨k, hk, rfl, hbel, hsz, hrow, hlv⟩ := hrel
    by_cases hlt : k < len
    · have hcell := hc k hlt
      rw [← hbel.cell (p := ⟨b, off + k, none⟩) hb] at hcell
      obtain ⟨s, hs⟩ : ∃ s, s = ss.getD k ByteArray.empty := ⟨_, rfl⟩
      rw [← hs] at hcell
      clear hs
      obtain ⟨s0, r0, r1, r2, r3, r4, r5, r6⟩ := hrow.row k hlt
      have f0 := hrow.free (k * 7)
      have f1 := hrow.free (k * 7 + 1)
      have f2 := hrow.free (k * 7 + 2)
      have f3 := hrow.free (k * 7 + 3)
      have f4 := hrow.free (k * 7 + 4)
      have f5 := hrow.free (k * 7 + 5)
      have f6 := hrow.free (k * 7 + 6)
      go_wp2
      go_region
      go_wp2
      go_roundw
      case rel =>
        have hp := hrow.put hlt s
        have hb' := below_setCells hbel (w.heap.size + 1) (by omega) [.string s, .slice none 0 0, .string s, .string ⟨#[]⟩, .pointer none, .pointer none, .int .i64 0] (k * 7)
        have hl' := hlv.of_block (heap_setCells (w.heap.size + 1) [.string s, .slice none 0 0, .string s, .string ⟨#[]⟩, .pointer none, .pointer none, .int .i64 0] (k * 7) wr _ (by omega))
        rw [chain7] at hp hb' hl'
        exact ⟨k + 1, by omega, by go_num, hb'.drew, by simp [hsz], hp.drew, hl'.drew⟩
      case measure => simp [intOf]; omega
    · have hc0 := hlv.c0
      have hc1 := hlv.c1
      have hc2 := hlv.c2
      have hc3 := hlv.c3
      have g0 := hlv.free 0
      have g1 := hlv.free 1
      have g2 := hlv.free 2
      have g3 := hlv.free 3
      go_wp2
      refine bodyPost_ret (v := .agg #[.int .u64 0, .int .i64 0, .pointer none, .slice (some ⟨w.heap.size + 1, 0, none⟩) len len]) (by simp [results, Yba.results5, go_sem, hc0, hc1, hc2, hc3]) rfl ⟨rfl, ?_, ?_, ?_⟩
      · exact below_setCells hbel w.heap.size (by omega) [.int .u64 0, .int .i64 0, .pointer none, .slice (some ⟨w.heap.size + 1, 0, none⟩) len len] 0
      · simpa using hsz
      · exact hrow.of_block (heap_setCells w.heap.size [.int .u64 0, .int .i64 0, .pointer none, .slice (some ⟨w.heap.size + 1, 0, none⟩) len len] 0 wr _ (by omega))
end Go.Proofs.Ybulkaggw
