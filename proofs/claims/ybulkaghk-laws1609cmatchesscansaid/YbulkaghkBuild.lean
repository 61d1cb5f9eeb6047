import Derived.Test.YbulkaghkDiffer
import Derived.Deep.OwnRows
import Derived.Maps.AppendAt
namespace Go.Proofs.Ybulkaghk
open Go.RowKit

/-- WHAT THE WALK IS TOLD OF A SLICE OF INTEGERS THAT CAME IN. -/
def IsRow (k : IntKind) (w : World) (a : Option Addr) (len cap : Nat) (zs : List Int) : Prop :=
  (a = none ∧ len = 0 ∧ cap = 0 ∧ zs = []) ∨
  ∃ x, a = some x ∧ len ≤ cap ∧ cap ≤ maxLen ∧ zs.length = cap ∧ (∀ i, i < zs.length → w.cell? (x.add i) = some (.int k (zs.getD i 0))) ∧ ∀ n ∈ zs, (Lit.int k n).wf = true

/-- The same, for one who reads it: where there is an element it lies in an old block. -/
theorem IsRow.at {k : IntKind} {w : World} {a : Option Addr} {len cap : Nat} {zs : List Int} (h : IsRow k w a len cap zs) (hl : 0 < len) :
    ∃ b off, a = some ⟨b, off, none⟩ ∧ b < w.heap.size ∧ (∀ i, i < len → w.cell? ⟨b, off + i, none⟩ = some (.int k (zs.getD i 0))) ∧ ∀ i, i < len → (Lit.int k (zs.getD i 0)).wf = true := by
  rcases h with ⟨_, h2, _⟩ | ⟨x, rfl, hlc, hcm, hz, hc, hw⟩
  · omega
  · obtain ⟨b, off, spot⟩ := x
    have h0 := hc 0 (by omega)
    have hspot : spot = none := by simpa [Addr.add] using World.cell?_spot h0
    subst hspot
    refine ⟨b, off, rfl, World.block_lt_of_cell? _ _ (by simpa [Addr.add] using h0), fun i hi => ?_, fun i hi => hw _ ?_⟩
    · rw [← addr_add]; exact hc i (by omega)
    · rw [List.getD_eq_getElem?_getD, List.getElem?_eq_getElem (by omega)]; simp

structure IntRow (w : World) (b n : Nat) : Prop where
  cell : ∀ i, i < n → ∃ v : Int, w.cell? ⟨b, i, none⟩ = some (.int .i64 v)
  free : ∀ o, w.frozen? ⟨b, o, none⟩ = false

theorem IntRow.set {w : World} {b n : Nat} (h : IntRow w b n) (k : Nat) (v : Int) : IntRow (w.setCell ⟨b, k, none⟩ (.int .i64 v)) b n := by
  refine ⟨fun i hi => ?_, fun o => by rw [World.frozen?_setCell]; exact h.free o⟩
  obtain ⟨u, hu⟩ := h.cell i hi
  by_cases e : i = k
  · subst e; exact ⟨v, World.cell?_setCell_same _ _ _ hu⟩
  · exact ⟨u, (World.cell?_setCell_other _ _ _ _ (by intro h; apply e; simpa using (congrArg Addr.off h).symm)).trans hu⟩

theorem IntRow.of_block {w w' : World} {b n : Nat} (h : IntRow w b n) (hb : w'.heap[b]? = w.heap[b]?) : IntRow w' b n :=
  ⟨fun i hi => by
    obtain ⟨v, hv⟩ := h.cell i hi
    exact ⟨v, (World.cell?_of_block (a := ⟨b, i, none⟩) hb).trans hv⟩, fun o => (World.frozen?_of_block (a := ⟨b, o, none⟩) hb).trans (h.free o)⟩

theorem IntRow.made (w : World) (n : Nat) (t : TypeId) : IntRow (w.alloc (.cells (madeCells #[.int .i64 0] n) t)) w.heap.size n := by
  refine ⟨fun i hi => ⟨0, ?_⟩, fun o => World.frozen?_alloc_at _ _ _ _ rfl⟩
  rw [World.cell?_alloc_at _ _ _ _ rfl]
  simp [madeCells, hi, Nat.mod_one]

/-- the items gathered so far -/
def Items (w : World) (b j n0 : Nat) (I : Nat → Nat) : Prop := ∀ i, i < j → w.cell? ⟨b, i, none⟩ = some (.int .i64 (I i)) ∧ I i ≤ n0

theorem Items.of_block {w w' : World} {b j n0 : Nat} {I : Nat → Nat} (h : Items w b j n0 I) (hb : w'.heap[b]? = w.heap[b]?) : Items w' b j n0 I :=
  fun i hi => ⟨(World.cell?_of_block (a := ⟨b, i, none⟩) hb).trans (h i hi).1, (h i hi).2⟩

theorem Items.put {w : World} {b j n0 : Nat} {I : Nat → Nat} {v : Value} (h : Items w b j n0 I) (hv : w.cell? ⟨b, j, none⟩ = some v) (x : Nat) (hx : x ≤ n0) : Items (w.setCell ⟨b, j, none⟩ (.int .i64 (x : Int))) b (j + 1) n0 (fun i => if i = j then x else I i) := by
  intro i hi
  by_cases e : i = j
  · subst e; simp only [if_true]; exact ⟨World.cell?_setCell_same _ _ _ hv, hx⟩
  · simp only [if_neg e]
    exact ⟨(World.cell?_setCell_other _ _ _ _ (by intro h; apply e; simpa using (congrArg Addr.off h).symm)).trans (h i (by omega)).1, (h i (by omega)).2⟩

theorem IntRow.fn {w : World} {b n : Nat} (h : IntRow w b n) : ∃ P : Nat → Int, ∀ i, i < n → w.cell? ⟨b, i, none⟩ = some (.int .i64 (P i)) := by
  refine ⟨fun i => if h' : i < n then Classical.choose (h.cell i h') else 0, fun i hi => ?_⟩
  simp only [dif_pos hi]
  exact Classical.choose_spec (h.cell i hi)

theorem tree_mk {wz : World} {c : Array Value} {pb ib d sz m n0 : Nat} {P : Nat → Int} {I : Nat → Nat} (h0 : c[0]? = some (.int .i64 d)) (h5 : c[5]? = some (.slice (some ⟨pb, 0, none⟩) sz sz)) (hr : ∀ i, i < sz → wz.cell? ⟨pb, i, none⟩ = some (.int .i64 (P i))) (hi : Items wz ib m n0 I) (hsz : sz = (n0 + 1) * d)
    (hp : pb < wz.heap.size) (hib : ib < wz.heap.size) (tb : Nat) (htb : tb = wz.heap.size) : Tree (wz.alloc (.cells c 62)) tb pb ib d sz m P I := by
  subst htb
  refine ⟨?_, ?_, fun i h => ?_, fun j h => ?_, fun j h => ?_⟩
  · rw [World.cell?_alloc_at _ _ _ _ rfl]; exact h0
  · rw [World.cell?_alloc_at _ _ _ _ rfl]; exact h5
  · rw [World.cell?_alloc_past _ _ _ hp]; exact hr i h
  · rw [World.cell?_alloc_past _ _ _ hib]; exact (hi j h).1
  · rw [hsz]; exact Nat.mul_le_mul_right _ (by have := (hi j h).2; omega)

theorem make24 (n : Nat) (h : n ≤ 2000) (w : World) : (Instr.makeSlice 24 (.int .i64 (n : Int)) (.int .i64 (n : Int))).run Yba.prog w = .ok (.slice (some ⟨w.heap.size, 0, none⟩) n n) (w.alloc (.cells (madeCells #[.int .i64 0] n) 25)) :=
  run_make_row' 24 25 (.int .i64 0) 8 Yba.underlying24 Yba.info25 rfl .i64 .i64 n (by omega) (by omega) w

set_option maxRecDepth 100000 in
set_option maxHeartbeats 800000 in
theorem build_any (w : World) (d : Nat) (hd : 1 ≤ d) (hd6 : d ≤ 6) (a1 : Option Addr) (len1 cap1 : Nat) (z1 : List Int) (a2 : Option Addr) (len2 cap2 : Nat) (z2 : List Int) (hl1 : len1 ≤ 1024) (hl2 : len2 ≤ 1024) (w1 : IsRow .i64 w a1 len1 cap1 z1) (w2 : IsRow .u8 w a2 len2 cap2 z2) :
    Calls Yba.prog 9 #[.int .i64 d, .slice a1 len1 cap1, .slice a2 len2 cap2] w fun e w' => ∃ tb pb ib sz m cm P I, e = .returned (.tuple #[.pointer (some ⟨tb, 0, none⟩), .slice (some ⟨ib, 0, none⟩) m cm]) ∧ Below w.heap.size w w' ∧
      Tree w' tb pb ib d sz m P I ∧ sz ≤ 2000 ∧ 1 ≤ m ∧ m ≤ 2000 ∧ m ≤ cm := by
  obtain ⟨n0, hn0⟩ : ∃ n0, n0 = len1 / d := ⟨_, rfl⟩
  obtain ⟨sz, hsz⟩ : ∃ sz, sz = (n0 + 1) * d := ⟨_, rfl⟩
  have hn1 : n0 ≤ 1024 := by rw [hn0]; exact Nat.le_trans (Nat.div_le_self _ _) hl1
  have hszl : sz ≤ 2000 := by
    have h1 : n0 * d ≤ len1 := by rw [hn0]; exact Nat.div_mul_le_self _ _
    rw [hsz, Nat.add_mul]; omega
  have q1 : (len1 : Int) / (d : Int) = (n0 : Int) := by rw [hn0]; simp
  have q2 : ((n0 : Int) + 1) * (d : Int) = (sz : Int) := by rw [hsz]; simp
  have hdp : (0 : Int) < (d : Int) := by omega
  have hmk := make24 sz hszl
  have HN : Hid (n0 = len1 / d) := hn0
  have HS : Hid (sz = (n0 + 1) * d) := hsz
  clear hn0 hsz
  go_enter Yba.func9, Yba.ntmps9
  go_wp2
  clear hmk q1 q2
  go_loopw [25] (fun i wr => ∃ k : Nat, k ≤ sz ∧ i = .int .i64 k ∧ Below w.heap.size w wr ∧ wr.heap.size = w.heap.size + 1 ∧ IntRow wr w.heap.size sz) (fun i _ => sz - (intOf i).toNat)
  case atStart => exact ⟨0, Nat.zero_le _, rfl, (Below.refl _ _).alloc (Nat.le_refl _) _, by simp, IntRow.made w sz 25⟩
  case round =>
    obtain ⟨k, hk, rfl, hbel, hsz, hrow⟩ := hrel
    by_cases hlt : k < sz
    · by_cases hkl : k < len1
      · obtain ⟨b, off, rfl, hb, hc, hwf⟩ := w1.at (by omega)
        have hcell : wr.cell? ⟨b, off + k, none⟩ = some (.int .i64 (z1.getD k 0)) := (hbel.cell (p := ⟨b, off + k, none⟩) hb).trans (hc k hkl)
        obtain ⟨v, hv⟩ := hrow.cell k hlt
        have hf := hrow.free k
        generalize z1.getD k 0 = zk at hcell
        go_wp2
        go_roundw
        case rel => exact ⟨k + 1, by omega, by go_num, hbel.setCell (p := ⟨w.heap.size, k, none⟩) (Nat.le_refl _) _, by simp [hsz], hrow.set _ _⟩
        case measure => simp [intOf]; omega
      · go_wp2
        go_roundw
        case rel => exact ⟨k + 1, by omega, by go_num, hbel, hsz, hrow⟩
        case measure => simp [intOf]; omega
    · have hmk2 : ∀ W : World, (Instr.makeSlice 30 (.int .i64 0) (.int .i64 ((len2 : Int) + 1))).run Yba.prog W = .ok (.slice (some ⟨W.heap.size, 0, none⟩) 0 (len2 + 1)) (W.alloc (.cells (madeCells #[.int .i64 0] (len2 + 1)) 3)) := by
        intro W
        obtain ⟨i, hi, hz0, hz1, hz2⟩ := info_parts Yba.info3
        have hr := run_make (P := Yba.prog) W 30 3 i _ Yba.underlying30 hi hz0 .i64 .i64 0 ((len2 : Int) + 1) (by omega) (by omega) (by rw [hz2]; omega) (by omega)
        rw [hz1] at hr
        simpa [Value.cells] using hr
      go_wp2
      clear hmk2
      obtain ⟨wa, rfl⟩ : ∃ wa, wa = wr := ⟨_, rfl⟩
      go_loopw [11, 46] (fun v i wq => ∃ (j : Nat) (I : Nat → Nat), j ≤ len2 ∧ v = .slice (some ⟨w.heap.size + 1, 0, none⟩) j (len2 + 1) ∧ i = .int .i64 j ∧ IntRow wq (w.heap.size + 1) (len2 + 1) ∧ Items wq (w.heap.size + 1) j n0 I ∧ w.heap.size + 2 ≤ wq.heap.size ∧ Below (w.heap.size + 1) wa wq) (fun _ i _ => len2 - (intOf i).toNat)
      case atStart =>
        have := IntRow.made wa (len2 + 1) 3
        rw [hsz] at this
        exact ⟨0, fun _ => 0, Nat.zero_le _, rfl, rfl, this, fun i hi => by omega, by simp; omega, (Below.refl _ _).alloc (by omega) _⟩
      case round =>
        obtain ⟨j, I, hj, rfl, rfl, hirow, hits, hsq, hbq⟩ := hrel
        by_cases hjl : j < len2
        · obtain ⟨b, off, rfl, hb, hc, hwf⟩ := w2.at (by omega)
          have hcell : wr.cell? ⟨b, off + j, none⟩ = some (.int .u8 (z2.getD j 0)) := by
            rw [hbq.cell (p := ⟨b, off + j, none⟩) (by simp; omega), hbel.cell (p := ⟨b, off + j, none⟩) hb]
            exact hc j hjl
          have hy : 0 ≤ z2.getD j 0 ∧ z2.getD j 0 ≤ 255 := by
            have := hwf j hjl
            simp only [Lit.wf, Bool.and_eq_true, decide_eq_true_eq] at this
            have h1 : IntKind.u8.min = 0 := rfl
            have h2 : IntKind.u8.max = 255 := rfl
            omega
          generalize z2.getD j 0 = y at hcell hy
          obtain ⟨hy0, hy1⟩ := hy
          have hnp : (0 : Int) < (n0 : Int) + 1 := by omega
          obtain ⟨v, hv⟩ := hirow.cell j (by omega)
          have hf := hirow.free j
          have hs1 : w.heap.size + 1 < wr.heap.size := by omega
          have hym : ((y % ((n0 : Int) + 1)).toNat : Int) = y % ((n0 : Int) + 1) := Int.toNat_of_nonneg (Int.emod_nonneg _ (by omega))
          have hyl : y % ((n0 : Int) + 1) < (n0 : Int) + 1 := Int.emod_lt_of_pos _ (by omega)
          have HY : Hid (((y % ((n0 : Int) + 1)).toNat : Int) = y % ((n0 : Int) + 1) ∧ y % ((n0 : Int) + 1) < (n0 : Int) + 1) := ⟨hym, hyl⟩
          clear hym hyl
          go_wp2
          go_roundw
          case rel =>
            have hI := hits.put hv (y % ((n0 : Int) + 1)).toNat (by have := HY.out; omega)
            rw [HY.out.1] at hI
            exact ⟨j + 1, _, by omega, rfl, by go_num, (hirow.set _ _).of_block (Below.heap_alloc _ _ _ (by simp; omega)), hI.of_block (Below.heap_alloc _ _ _ (by simp; omega)), by simp; omega, (hbq.setCell (p := ⟨w.heap.size + 1, j, none⟩) (by simp) _).alloc (by simp; omega) _⟩
          case measure => simp [intOf]; omega
        · obtain rfl : j = len2 := by omega
          by_cases hl0 : j = 0
          · subst hl0
            obtain ⟨v, hv⟩ := hirow.cell 0 (by omega)
            have hf := hirow.free 0
            have hs1 : w.heap.size + 1 < wr.heap.size := by omega
            go_wp2
            go_ret2
            have hI := (hits.put hv 0 (Nat.zero_le _)).of_block (Below.heap_alloc _ (.cells #[.int .i64 0] 3) _ (by simp; omega))
            have hrq : IntRow wr w.heap.size sz := hrow.of_block (hbq.block _ (by omega))
            have hrz := (hrq.of_block (Below.heap_setCell wr ⟨w.heap.size + 1, 0, none⟩ (.int .i64 0) _ (by simp))).of_block (Below.heap_alloc _ (.cells #[.int .i64 0] 3) _ (by simp; omega))
            obtain ⟨P, hP⟩ := hrz.fn
            have hbw : Below w.heap.size w wr := hbel.trans (hbq.mono (by omega))
            refine ⟨_, _, _, sz, 1, _, P, _, rfl, ?_, tree_mk rfl rfl hP hI HS.out (by simp; omega) (by simp; omega) _ (by simp), hszl, by omega, by omega, by omega⟩
            exact ((hbw.setCell (p := ⟨w.heap.size + 1, 0, none⟩) (by simp) _).alloc (by simp; omega) _).alloc (by simp; omega) _
          · have hjb : ((j : Int) == 0) = false := beq_eq_false_iff_ne.2 (by omega)
            go_wp2
            go_ret2
            have hrq : IntRow wr w.heap.size sz := hrow.of_block (hbq.block _ (by omega))
            obtain ⟨P, hP⟩ := hrq.fn
            have hbw : Below w.heap.size w wr := hbel.trans (hbq.mono (by omega))
            exact ⟨_, _, _, sz, j, _, P, _, rfl, hbw.alloc (by omega) _, tree_mk rfl rfl hP hits HS.out (by omega) (by omega) _ rfl, hszl, by omega, by omega, by omega⟩
end Go.Proofs.Ybulkaghk
