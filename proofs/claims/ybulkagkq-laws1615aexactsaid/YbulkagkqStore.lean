import Derived.Test.YbulkagkqRows
import Derived.Test.YbulkagkqLocks
import Derived.Conc.RwLone
import Derived.WalkKit
import Derived.ProofKit
import Derived.Defers
import Derived.Laws.ResultCell
namespace Go.Proofs.Ybulkagkq
open Go.RowKit Go.RwLone

/-- a Store in block sb, its lock free -/
structure StAt (w : World) (sb : Nat) (lh ln ll : Int) (p : Option Addr) : Prop where
  c3 : w.cell? ⟨sb, 3, none⟩ = some (.int .i32 0)
  c5 : w.cell? ⟨sb, 5, none⟩ = some (.int .u32 0)
  c6 : w.cell? ⟨sb, 6, none⟩ = some (.int .u32 0)
  c7 : w.cell? ⟨sb, 7, none⟩ = some (.int .i32 0)
  c10 : w.cell? ⟨sb, 10, none⟩ = some (.int .u64 lh)
  c11 : w.cell? ⟨sb, 11, none⟩ = some (.int .u64 ln)
  c12 : w.cell? ⟨sb, 12, none⟩ = some (.int .u64 ll)
  c18 : w.cell? ⟨sb, 18, none⟩ = some (.pointer p)
  free : ∀ o, w.frozen? ⟨sb, o, none⟩ = false

/-- the world behind a reader's lock and unlock -/
def rd (w : World) (sb : Nat) : World := (w.setCell ⟨sb, 7, none⟩ (.int .i32 1)).setCell ⟨sb, 7, none⟩ (.int .i32 0)

theorem StAt.one {w : World} {sb : Nat} (o : Nat) (ho : o ≠ 7) (v : Value) : (w.setCell ⟨sb, 7, none⟩ v).cell? ⟨sb, o, none⟩ = w.cell? ⟨sb, o, none⟩ :=
  World.cell?_setCell_other _ _ _ _ (by intro e; exact ho (congrArg Addr.off e).symm)

theorem StAt.rd {w : World} {sb : Nat} {lh ln ll : Int} {p : Option Addr} (h : StAt w sb lh ln ll p) : StAt (rd w sb) sb lh ln ll p := by
  have e : ∀ o, o ≠ 7 → (Ybulkagkq.rd w sb).cell? ⟨sb, o, none⟩ = w.cell? ⟨sb, o, none⟩ := fun o ho => (StAt.one o ho _).trans (StAt.one o ho _)
  refine ⟨(e 3 (by omega)).trans h.c3, (e 5 (by omega)).trans h.c5, (e 6 (by omega)).trans h.c6, ?_, (e 10 (by omega)).trans h.c10, (e 11 (by omega)).trans h.c11, (e 12 (by omega)).trans h.c12, (e 18 (by omega)).trans h.c18, fun o => ?_⟩
  · exact World.cell?_setCell_same _ _ _ (World.cell?_setCell_same _ _ _ h.c7)
  · unfold Ybulkagkq.rd; rw [World.frozen?_setCell, World.frozen?_setCell]; exact h.free o

theorem StAt.of_block {w w' : World} {sb : Nat} {lh ln ll : Int} {p : Option Addr} (h : StAt w sb lh ln ll p) (hb : w'.heap[sb]? = w.heap[sb]?) : StAt w' sb lh ln ll p := by
  have e : ∀ o, w'.cell? ⟨sb, o, none⟩ = w.cell? ⟨sb, o, none⟩ := fun o => World.cell?_of_block (a := ⟨sb, o, none⟩) hb
  exact ⟨(e 3).trans h.c3, (e 5).trans h.c5, (e 6).trans h.c6, (e 7).trans h.c7, (e 10).trans h.c10, (e 11).trans h.c11, (e 12).trans h.c12, (e 18).trans h.c18, fun o => (World.frozen?_of_block (a := ⟨sb, o, none⟩) hb).trans (h.free o)⟩

theorem below_rd {w : World} {B sb : Nat} (hs : B ≤ sb) : Below B w (rd w sb) := ((Below.refl _ _).setCell (p := ⟨sb, 7, none⟩) hs _).setCell (p := ⟨sb, 7, none⟩) hs _

theorem up1 : wrap32 (0 + 1) = 1 := by unfold wrap32; omega
theorem down1 : wrap32 (1 + -1) = 0 := by unfold wrap32; omega

theorem rlock7 (w : World) (sb : Nat) {lh ln ll : Int} {p : Option Addr} (h : StAt w sb lh ln ll p) :
    Calls Yba.prog 14 #[.pointer (some ⟨sb, 3, none⟩)] w fun e w' => e = .returned (.tuple #[]) ∧ w' = w.setCell ⟨sb, 7, none⟩ (.int .i32 1) := by
  refine (rlock_open Yba.rwRLib sb 3 0 _ _ w h.c3 h.c6 h.c7 (h.free 7) (by rw [up1]; decide)).mono ?_
  rintro e w' ⟨rfl, rfl⟩
  exact ⟨rfl, by rw [up1]⟩

theorem runlock7 (w : World) (sb : Nat) (u : FrameMode) (c3 : w.cell? ⟨sb, 3, none⟩ = some (.int .i32 0)) (c5 : w.cell? ⟨sb, 5, none⟩ = some (.int .u32 0)) (c7 : w.cell? ⟨sb, 7, none⟩ = some (.int .i32 1)) (hz : w.frozen? ⟨sb, 7, none⟩ = false) :
    CallsD Yba.prog 15 #[.pointer (some ⟨sb, 3, none⟩)] u w fun e u' w' => u' = u ∧ (e = .returned (.tuple #[]) ∧ w' = w.setCell ⟨sb, 7, none⟩ (.int .i32 0)) := by
  refine (runlock_deferred Yba.rwRLib sb 3 1 _ _ u w c3 c5 c7 hz (by rw [down1]; decide)).mono ?_
  rintro e u' w' ⟨rfl, rfl, rfl⟩
  exact ⟨rfl, rfl, by rw [down1]⟩

set_option maxRecDepth 100000 in
theorem inblock_any (w : World) (sb : Nat) (lh ln ll : Int) (p : Option Addr) (h : StAt w sb lh ln ll p) :
    Calls Yba.prog 8 #[.pointer (some ⟨sb, 0, none⟩)] w fun e w' => e = .returned (.bool p.isSome) ∧ w' = rd w sb := by
  have hc18 := (StAt.one (w := w) (sb := sb) 18 (by omega) (.int .i32 1)).trans h.c18
  go_enter_defers Yba.func8, Yba.ntmps8
  go_wp2_with (go_at_call 14; refine (rlock7 w sb h).mono ?_; rintro e w' ⟨rfl, rfl⟩)
  refine leaves_cons (f := 15) (args := #[.pointer (some ⟨sb, 3, none⟩)]) (by simp) (by simp [go_sem]) ?_
  refine (runlock7 _ sb .returning ((StAt.one 3 (by omega) _).trans h.c3) ((StAt.one 5 (by omega) _).trans h.c5) (World.cell?_setCell_same _ _ _ h.c7) (by rw [World.frozen?_setCell]; exact h.free 7)).mono ?_
  rintro e u' w'' ⟨rfl, rfl, rfl⟩
  exact ⟨_, results_tmp rfl _ _ _, rfl, rfl⟩

set_option maxRecDepth 100000 in
theorem last_any (w : World) (sb : Nat) (lh ln ll : Int) (p : Option Addr) (h : StAt w sb lh ln ll p) (hs : sb < w.heap.size) :
    Calls Yba.prog 9 #[.pointer (some ⟨sb, 0, none⟩)] w fun e w' => e = .returned (.agg #[.int .u64 lh, .int .u64 ln, .int .u64 ll]) ∧ StAt w' sb lh ln ll p ∧ Below sb w w' := by
  have h1 : StAt (w.alloc (.cells #[.int .u64 0, .int .u64 0, .int .u64 0] 25)) sb lh ln ll p := h.of_block (Below.heap_alloc _ _ _ hs)
  have d10 := (StAt.one (w := w) (sb := sb) 10 (by omega) (.int .i32 1)).trans h.c10
  have d11 := (StAt.one (w := w) (sb := sb) 11 (by omega) (.int .i32 1)).trans h.c11
  have d12 := (StAt.one (w := w) (sb := sb) 12 (by omega) (.int .i32 1)).trans h.c12
  go_enter_defers Yba.func9, Yba.ntmps9
  go_wp2_with fail
  refine (rlock7 _ sb h1).mono ?_
  rintro e w' ⟨rfl, rfl⟩
  go_wp2
  have hb : ((w.setCell ⟨sb, 7, none⟩ (.int .i32 1)).alloc (.cells #[.int .u64 lh, .int .u64 ln, .int .u64 ll] 25)).heap[sb]? = (w.setCell ⟨sb, 7, none⟩ (.int .i32 1)).heap[sb]? := Below.heap_alloc _ _ _ (by simpa using hs)
  have hcell : ∀ o, ((w.setCell ⟨sb, 7, none⟩ (.int .i32 1)).alloc (.cells #[.int .u64 lh, .int .u64 ln, .int .u64 ll] 25)).cell? ⟨sb, o, none⟩ = (w.setCell ⟨sb, 7, none⟩ (.int .i32 1)).cell? ⟨sb, o, none⟩ := fun o => World.cell?_of_block (a := ⟨sb, o, none⟩) hb
  have hfr : ∀ o, ((w.setCell ⟨sb, 7, none⟩ (.int .i32 1)).alloc (.cells #[.int .u64 lh, .int .u64 ln, .int .u64 ll] 25)).frozen? ⟨sb, o, none⟩ = false := fun o => (World.frozen?_of_block (a := ⟨sb, o, none⟩) hb).trans (by rw [World.frozen?_setCell]; exact h.free o)
  refine leaves_cons (f := 15) (args := #[.pointer (some ⟨sb, 3, none⟩)]) (by simp) (by simp [go_sem]) ?_
  refine (runlock7 _ sb .returning ((hcell 3).trans ((StAt.one 3 (by omega) _).trans h.c3)) ((hcell 5).trans ((StAt.one 5 (by omega) _).trans h.c5)) ((hcell 7).trans (World.cell?_setCell_same _ _ _ h.c7)) (hfr 7)).mono ?_
  rintro e u' w'' ⟨rfl, rfl, rfl⟩
  refine ⟨.agg #[.int .u64 lh, .int .u64 ln, .int .u64 ll], ?_, rfl, ?_, ?_⟩
  · simp [results, Yba.results9, go_sem]
  · have hcc : ∀ o, o ≠ 7 → (((w.setCell ⟨sb, 7, none⟩ (.int .i32 1)).alloc (.cells #[.int .u64 lh, .int .u64 ln, .int .u64 ll] 25)).setCell ⟨sb, 7, none⟩ (.int .i32 0)).cell? ⟨sb, o, none⟩ = w.cell? ⟨sb, o, none⟩ := fun o ho => (StAt.one o ho _).trans ((hcell o).trans (StAt.one o ho _))
    exact ⟨(hcc 3 (by omega)).trans h.c3, (hcc 5 (by omega)).trans h.c5, (hcc 6 (by omega)).trans h.c6, World.cell?_setCell_same _ _ _ ((hcell 7).trans (World.cell?_setCell_same _ _ _ h.c7)), (hcc 10 (by omega)).trans h.c10, (hcc 11 (by omega)).trans h.c11, (hcc 12 (by omega)).trans h.c12, (hcc 18 (by omega)).trans h.c18, fun o => by rw [World.frozen?_setCell]; exact hfr o⟩
  · exact (((Below.refl sb w).setCell (p := ⟨sb, 7, none⟩) (Nat.le_refl _) _).alloc (by simp; omega) _).setCell (p := ⟨sb, 7, none⟩) (Nat.le_refl _) _
end Go.Proofs.Ybulkagkq
