import Derived.Test.YbulkagkqStore
import Derived.Laws.StructEq
namespace Go.Proofs.Ybulkagkq
open Go.RowKit Go.RwLone

set_option maxRecDepth 100000 in
theorem aopen_any (w : World) (h n : Int) : Calls Yba.prog 7 #[.int .u64 h, .int .u64 n] w fun e w' => ∃ a, e = .returned (.pointer (some a)) ∧ Below w.heap.size w w' := by
  have hmm := @run_makeMap Yba.prog
  go_enter Yba.func7, Yba.ntmps7
  go_wp2
  go_ret
  exact ⟨_, rfl, (((Below.refl _ _).alloc (Nat.le_refl _) _).alloc (by simp) _).alloc (by simp; omega) _⟩

/-- a new Store -/
theorem StAt.made (w : World) (lh ln ll : Int) : StAt (w.alloc (.cells #[.string ⟨#[]⟩, .int .u64 0, .int .u64 0, .int .i32 0, .int .u32 0, .int .u32 0, .int .u32 0, .int .i32 0, .int .i32 0, .pointer none, .int .u64 lh, .int .u64 ln, .int .u64 ll, .int .u64 0, .map none, .slice none 0 0, .map none, .int .i64 0, .pointer none, .nilIface] 53)) w.heap.size lh ln ll none := by
  refine ⟨?_, ?_, ?_, ?_, ?_, ?_, ?_, ?_, fun o => World.frozen?_alloc_at _ _ _ _ rfl⟩ <;> rw [World.cell?_alloc_at _ _ _ _ rfl] <;> rfl

theorem StAt.set18 {w : World} {sb : Nat} {lh ln ll : Int} {p : Option Addr} (h : StAt w sb lh ln ll p) (q : Option Addr) : StAt (w.setCell ⟨sb, 18, none⟩ (.pointer q)) sb lh ln ll q := by
  have e : ∀ o, o ≠ 18 → (w.setCell ⟨sb, 18, none⟩ (.pointer q)).cell? ⟨sb, o, none⟩ = w.cell? ⟨sb, o, none⟩ := fun o ho => World.cell?_setCell_other _ _ _ _ (by intro e; exact ho (congrArg Addr.off e).symm)
  exact ⟨(e 3 (by omega)).trans h.c3, (e 5 (by omega)).trans h.c5, (e 6 (by omega)).trans h.c6, (e 7 (by omega)).trans h.c7, (e 10 (by omega)).trans h.c10, (e 11 (by omega)).trans h.c11, (e 12 (by omega)).trans h.c12, World.cell?_setCell_same _ _ _ h.c18, fun o => by rw [World.frozen?_setCell]; exact h.free o⟩

theorem inblock_g (w : World) (sb : Nat) (lh ln ll : Int) (p : Option Addr) (h : StAt w sb lh ln ll p) :
    Calls Yba.prog 8 #[.pointer (some ⟨sb, 0, none⟩)] w fun e w' => e = .returned (.bool p.isSome) ∧ StAt w' sb lh ln ll p ∧ Below sb w w' := by
  refine (inblock_any w sb lh ln ll p h).mono ?_
  rintro e w' ⟨rfl, rfl⟩
  exact ⟨rfl, h.rd, below_rd (Nat.le_refl _)⟩

set_option maxRecDepth 100000 in
set_option maxHeartbeats 400000 in
theorem exact_walk (op : Bool) (h n lh ln ll : Int) (w : World) :
    Calls Yba.prog 3 #[.bool op, .int .u64 h, .int .u64 n, .int .u64 lh, .int .u64 ln, .int .u64 ll] w fun e w' => e = .returned (.bool true) ∧ Below w.heap.size w w' := by
  have hs := StAt.made w lh ln ll
  have hb0 := (Below.refl w.heap.size w).alloc (Nat.le_refl _) (.cells #[.string ⟨#[]⟩, .int .u64 0, .int .u64 0, .int .i32 0, .int .u32 0, .int .u32 0, .int .u32 0, .int .i32 0, .int .i32 0, .pointer none, .int .u64 lh, .int .u64 ln, .int .u64 ll, .int .u64 0, .map none, .slice none 0 0, .map none, .int .i64 0, .pointer none, .nilIface] 53)
  cases op
  · go_enter Yba.func3, Yba.ntmps3
    go_wp2_with fail
    refine (inblock_g _ w.heap.size lh ln ll none hs).mono ?_
    rintro e w1 ⟨rfl, h1, hb1⟩
    have hz1 : w.heap.size < w1.heap.size := by have := hb1.size; simp at this; omega
    have hbb1 := hb0.trans hb1
    clear hb0 hb1 hs
    go_wp2_with fail
    refine (last_any w1 w.heap.size lh ln ll none h1 hz1).mono ?_
    rintro e w2 ⟨rfl, h2, hb2⟩
    have hbb2 := hbb1.trans hb2
    clear hbb1 hb2 h1
    go_wp2_with fail
    refine (inblock_g w2 w.heap.size lh ln ll none h2).mono ?_
    rintro e w3 ⟨rfl, h3, hb3⟩
    have hbb3 := hbb2.trans hb3
    clear hbb2 hb3 h2
    go_wp2
    go_ret
    exact ⟨rfl, hbb3⟩
  · go_enter Yba.func3, Yba.ntmps3
    go_wp2_with fail
    refine (aopen_any _ h n).mono ?_
    rintro e w0 ⟨a, rfl, hba⟩
    have hs0 : StAt w0 w.heap.size lh ln ll none := hs.of_block (hba.block w.heap.size (by simp))
    have hbb0 := hb0.trans (hba.mono (by simp))
    have hs1 := hs0.set18 (some a)
    have hz0 : w.heap.size < w0.heap.size := by have := hba.size; simp at this; omega
    have hbb := hbb0.setCell (p := ⟨w.heap.size, 18, none⟩) (Nat.le_refl _) (.pointer (some a))
    have hz : w.heap.size < (w0.setCell ⟨w.heap.size, 18, none⟩ (.pointer (some a))).heap.size := by simpa using hz0
    have c18 := hs0.c18
    have f18 := hs0.free 18
    clear hs hb0 hba hs0 hbb0
    go_wp2_with fail
    refine (inblock_g _ w.heap.size lh ln ll (some a) hs1).mono ?_
    rintro e w1 ⟨rfl, h1, hb1⟩
    have hz1 : w.heap.size < w1.heap.size := Nat.lt_of_lt_of_le hz hb1.size
    have hbb1 := hbb.trans hb1
    clear hbb hb1 hs1 hz c18 f18
    go_wp2_with fail
    refine (last_any w1 w.heap.size lh ln ll (some a) h1 hz1).mono ?_
    rintro e w2 ⟨rfl, h2, hb2⟩
    have hbb2 := hbb1.trans hb2
    clear hbb1 hb2 h1
    go_wp2_with fail
    refine (inblock_g w2 w.heap.size lh ln ll (some a) h2).mono ?_
    rintro e w3 ⟨rfl, h3, hb3⟩
    have hbb3 := hbb2.trans hb3
    clear hbb2 hb3 h2
    go_wp2
    go_ret
    exact ⟨rfl, hbb3⟩
end Go.Proofs.Ybulkagkq
