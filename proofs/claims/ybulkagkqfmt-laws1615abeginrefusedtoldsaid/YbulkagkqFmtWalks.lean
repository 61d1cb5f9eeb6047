import Derived.Test.YbulkagkqFmtNext
import Derived.Test.YbulkagkqFmtLocks
import Derived.Test.YbulkagkqFmtIs
import Derived.Conc.RwLoneW
import Derived.Defers
namespace Go.Proofs.YbulkagkqFmt
open Go.RowKit Go.RwLone Go.Extern.Stop Go.Stop Go.Extern

/-- a Store in block sb; s3, s7: its lock's words -/
structure StW (w : World) (sb : Nat) (s3 s7 lh ln ll : Int) (p : Option Addr) : Prop where
  c3 : w.cell? ⟨sb, 3, none⟩ = some (.int .i32 s3)
  c5 : w.cell? ⟨sb, 5, none⟩ = some (.int .u32 0)
  c6 : w.cell? ⟨sb, 6, none⟩ = some (.int .u32 0)
  c7 : w.cell? ⟨sb, 7, none⟩ = some (.int .i32 s7)
  c10 : w.cell? ⟨sb, 10, none⟩ = some (.int .u64 lh)
  c11 : w.cell? ⟨sb, 11, none⟩ = some (.int .u64 ln)
  c12 : w.cell? ⟨sb, 12, none⟩ = some (.int .u64 ll)
  c18 : w.cell? ⟨sb, 18, none⟩ = some (.pointer p)
  c19 : w.cell? ⟨sb, 19, none⟩ = some .nilIface
  free : ∀ o, w.frozen? ⟨sb, o, none⟩ = false

theorem oth (w : World) (sb k : Nat) (v : Value) (o : Nat) (ho : o ≠ k) : (w.setCell ⟨sb, k, none⟩ v).cell? ⟨sb, o, none⟩ = w.cell? ⟨sb, o, none⟩ :=
  World.cell?_setCell_other _ _ _ _ (by intro e; exact ho (congrArg Addr.off e).symm)

theorem StW.set3 {w : World} {sb : Nat} {s3 s7 lh ln ll : Int} {p : Option Addr} (h : StW w sb s3 s7 lh ln ll p) (x : Int) : StW (w.setCell ⟨sb, 3, none⟩ (.int .i32 x)) sb x s7 lh ln ll p := by
  have e := oth w sb 3 (.int .i32 x)
  exact ⟨World.cell?_setCell_same _ _ _ h.c3, (e 5 (by omega)).trans h.c5, (e 6 (by omega)).trans h.c6, (e 7 (by omega)).trans h.c7, (e 10 (by omega)).trans h.c10, (e 11 (by omega)).trans h.c11, (e 12 (by omega)).trans h.c12, (e 18 (by omega)).trans h.c18, (e 19 (by omega)).trans h.c19, fun o => by rw [World.frozen?_setCell]; exact h.free o⟩
theorem StW.set7 {w : World} {sb : Nat} {s3 s7 lh ln ll : Int} {p : Option Addr} (h : StW w sb s3 s7 lh ln ll p) (x : Int) : StW (w.setCell ⟨sb, 7, none⟩ (.int .i32 x)) sb s3 x lh ln ll p := by
  have e := oth w sb 7 (.int .i32 x)
  exact ⟨(e 3 (by omega)).trans h.c3, (e 5 (by omega)).trans h.c5, (e 6 (by omega)).trans h.c6, World.cell?_setCell_same _ _ _ h.c7, (e 10 (by omega)).trans h.c10, (e 11 (by omega)).trans h.c11, (e 12 (by omega)).trans h.c12, (e 18 (by omega)).trans h.c18, (e 19 (by omega)).trans h.c19, fun o => by rw [World.frozen?_setCell]; exact h.free o⟩
theorem StW.set18 {w : World} {sb : Nat} {s3 s7 lh ln ll : Int} {p : Option Addr} (h : StW w sb s3 s7 lh ln ll p) (q : Option Addr) : StW (w.setCell ⟨sb, 18, none⟩ (.pointer q)) sb s3 s7 lh ln ll q := by
  have e := oth w sb 18 (.pointer q)
  exact ⟨(e 3 (by omega)).trans h.c3, (e 5 (by omega)).trans h.c5, (e 6 (by omega)).trans h.c6, (e 7 (by omega)).trans h.c7, (e 10 (by omega)).trans h.c10, (e 11 (by omega)).trans h.c11, (e 12 (by omega)).trans h.c12, World.cell?_setCell_same _ _ _ h.c18, (e 19 (by omega)).trans h.c19, fun o => by rw [World.frozen?_setCell]; exact h.free o⟩
theorem StW.of_block {w w' : World} {sb : Nat} {s3 s7 lh ln ll : Int} {p : Option Addr} (h : StW w sb s3 s7 lh ln ll p) (hb : w'.heap[sb]? = w.heap[sb]?) : StW w' sb s3 s7 lh ln ll p := by
  have e : ∀ o, w'.cell? ⟨sb, o, none⟩ = w.cell? ⟨sb, o, none⟩ := fun o => World.cell?_of_block (a := ⟨sb, o, none⟩) hb
  exact ⟨(e 3).trans h.c3, (e 5).trans h.c5, (e 6).trans h.c6, (e 7).trans h.c7, (e 10).trans h.c10, (e 11).trans h.c11, (e 12).trans h.c12, (e 18).trans h.c18, (e 19).trans h.c19, fun o => (World.frozen?_of_block (a := ⟨sb, o, none⟩) hb).trans (h.free o)⟩

theorem up1 : wrap32 (0 + 1) = 1 := by unfold wrap32; omega
theorem down1 : wrap32 (1 + -1) = 0 := by unfold wrap32; omega

theorem rlock7 (w : World) (sb : Nat) {lh ln ll : Int} {p : Option Addr} (h : StW w sb 0 0 lh ln ll p) :
    Calls Ybaf.prog 8 #[.pointer (some ⟨sb, 3, none⟩)] w fun e w' => e = .returned (.tuple #[]) ∧ w' = w.setCell ⟨sb, 7, none⟩ (.int .i32 1) := by
  refine (rlock_open Ybaf.rwRLib sb 3 0 _ _ w h.c3 h.c6 h.c7 (h.free 7) (by rw [up1]; decide)).mono ?_
  rintro e w' ⟨rfl, rfl⟩
  exact ⟨rfl, by rw [up1]⟩

theorem runlock7 (w : World) (sb : Nat) (u : FrameMode) {lh ln ll : Int} {p : Option Addr} (h : StW w sb 0 1 lh ln ll p) :
    CallsD Ybaf.prog 9 #[.pointer (some ⟨sb, 3, none⟩)] u w fun e u' w' => u' = u ∧ (e = .returned (.tuple #[]) ∧ w' = w.setCell ⟨sb, 7, none⟩ (.int .i32 0)) := by
  refine (runlock_deferred Ybaf.rwRLib sb 3 1 _ _ u w h.c3 h.c5 h.c7 (h.free 7) (by rw [down1]; decide)).mono ?_
  rintro e u' w' ⟨rfl, rfl, rfl⟩
  exact ⟨rfl, rfl, by rw [down1]⟩

theorem wlock7 (w : World) (sb : Nat) {lh ln ll : Int} {p : Option Addr} (h : StW w sb 0 0 lh ln ll p) :
    Calls Ybaf.prog 10 #[.pointer (some ⟨sb, 3, none⟩)] w fun e w' => e = .returned (.tuple #[]) ∧ w' = (w.setCell ⟨sb, 3, none⟩ (.int .i32 1)).setCell ⟨sb, 7, none⟩ (.int .i32 (-1073741824)) :=
  wlock_free Ybaf.rwWLib sb 3 _ _ w h.c3 h.c5 h.c6 h.c7 (h.free 3) (h.free 7)

theorem wunlock7 (w : World) (sb : Nat) (u : FrameMode) {lh ln ll : Int} {p : Option Addr} (h : StW w sb 1 (-1073741824) lh ln ll p) :
    CallsD Ybaf.prog 11 #[.pointer (some ⟨sb, 3, none⟩)] u w fun e u' w' => u' = u ∧ (e = .returned (.tuple #[]) ∧ w' = (w.setCell ⟨sb, 7, none⟩ (.int .i32 0)).setCell ⟨sb, 3, none⟩ (.int .i32 0)) :=
  wunlock_deferred Ybaf.rwWLib sb 3 _ _ u w h.c3 h.c5 h.c6 h.c7 (h.free 3) (h.free 7)

set_option maxRecDepth 100000 in
theorem inblock_any (w : World) (sb : Nat) (lh ln ll : Int) (p : Option Addr) (h : StW w sb 0 0 lh ln ll p) :
    Calls Ybaf.prog 5 #[.pointer (some ⟨sb, 0, none⟩)] w fun e w' => e = .returned (.bool p.isSome) ∧ StW w' sb 0 0 lh ln ll p ∧ Below sb w w' := by
  have h1 := h.set7 1
  have hc18 := h1.c18
  go_enter_defers Ybaf.func5, Ybaf.ntmps5
  go_wp2_with (go_at_call 8; refine (rlock7 w sb h).mono ?_; rintro e w' ⟨rfl, rfl⟩)
  refine leaves_cons (f := 9) (args := #[.pointer (some ⟨sb, 3, none⟩)]) (by simp) (by simp [go_sem]) ?_
  refine (runlock7 _ sb .returning h1).mono ?_
  rintro e u' w'' ⟨rfl, rfl, rfl⟩
  exact ⟨_, results_tmp rfl _ _ _, rfl, h1.set7 0, ((Below.refl _ _).setCell (p := ⟨sb, 7, none⟩) (Nat.le_refl _) _).setCell (p := ⟨sb, 7, none⟩) (Nat.le_refl _) _⟩

set_option maxRecDepth 100000 in
theorem begin_open (w : World) (sb : Nat) (lh ln ll hh nn : Int) (a a0 : Addr) (h : StW w sb 0 0 lh ln ll (some a)) (hg0 : w.cell? ⟨0, 0, none⟩ = some (.iface 104 (.pointer (some a0)))) :
    Calls Ybaf.prog 6 #[.pointer (some ⟨sb, 0, none⟩), .int .u64 hh, .int .u64 nn] w fun e w' => e = .returned (.iface 104 (.pointer (some a0))) ∧ StW w' sb 0 0 lh ln ll (some a) ∧ Below sb w w' := by
  have h1 := (h.set3 1).set7 (-1073741824)
  have hc18 := h1.c18
  have hc19 := h1.c19
  have hg : ((w.setCell ⟨sb, 3, none⟩ (.int .i32 1)).setCell ⟨sb, 7, none⟩ (.int .i32 (-1073741824))).cell? ⟨0, 0, none⟩ = some (.iface 104 (.pointer (some a0))) := by
    rw [World.cell?_setCell_other _ _ _ _ (by simp), World.cell?_setCell_other _ _ _ _ (by simp)]; exact hg0
  go_enter_defers Ybaf.func6, Ybaf.ntmps6
  go_wp2_with (go_at_call 10; refine (wlock7 w sb h).mono ?_; rintro e w' ⟨rfl, rfl⟩)
  refine leaves_cons (f := 11) (args := #[.pointer (some ⟨sb, 3, none⟩)]) (by simp) (by simp [go_sem]) ?_
  refine (wunlock7 _ sb .returning h1).mono ?_
  rintro e u' w'' ⟨rfl, rfl, rfl⟩
  exact ⟨_, results_tmp rfl _ _ _, rfl, (h1.set7 0).set3 0, ((((Below.refl _ _).setCell (p := ⟨sb, 3, none⟩) (Nat.le_refl _) _).setCell (p := ⟨sb, 7, none⟩) (Nat.le_refl _) _).setCell (p := ⟨sb, 7, none⟩) (Nat.le_refl _) _).setCell (p := ⟨sb, 3, none⟩) (Nat.le_refl _) _⟩

set_option maxRecDepth 100000 in
theorem begin_order (F : Interp) (w : World) (sb : Nat) (lh ln ll : Int) (b : Addr) (s : ByteArray) (h : StW w sb 0 0 lh ln ll none) (hwf : (Lit.int .u64 lh).wf = true) (hF : F.answers w.tape) (hg1 : w.cell? ⟨1, 0, none⟩ = some (.iface 104 (.pointer (some b)))) (hb : w.cell? b = some (.string s)) (hbs : b.block < sb) (hs : sb < w.heap.size) (hs1 : 1 < sb) :
    Calls Ybaf.prog 6 #[.pointer (some ⟨sb, 0, none⟩), .int .u64 lh, .int .u64 ln] w fun e w' => ∃ pb, e = .returned (.iface 98 (.pointer (some ⟨pb, 0, none⟩))) ∧ w'.cell? ⟨pb, 1, none⟩ = some (.iface 104 (.pointer (some b))) ∧ StW w' sb 0 0 lh ln ll none ∧ Below sb w w' := by
  have h1 := (h.set3 1).set7 (-1073741824)
  have hbl : Below sb w ((w.setCell ⟨sb, 3, none⟩ (.int .i32 1)).setCell ⟨sb, 7, none⟩ (.int .i32 (-1073741824))) := ((Below.refl _ _).setCell (p := ⟨sb, 3, none⟩) (Nat.le_refl _) _).setCell (p := ⟨sb, 7, none⟩) (Nat.le_refl _) _
  have hc18 := h1.c18
  have hc19 := h1.c19
  have hc10 := h1.c10
  have hc11 := h1.c11
  have hc12 := h1.c12
  go_enter_defers Ybaf.func6, Ybaf.ntmps6
  go_wp2_with fail
  refine (wlock7 w sb h).mono ?_
  rintro e w' ⟨rfl, rfl⟩
  go_wp2_with fail
  refine (chk_any F b s lh ln ll ((w.setCell ⟨sb, 3, none⟩ (.int .i32 1)).setCell ⟨sb, 7, none⟩ (.int .i32 (-1073741824))) hwf hF ((hbl.cell (p := ⟨1, 0, none⟩) hs1).trans hg1) ((hbl.cell hbs).trans hb) (by simp; omega)).mono ?_
  rintro e w1 ⟨pb, rfl, hpb, hb1⟩
  have h2 := h1.of_block (hb1.block sb (by simpa using hs))
  go_wp2
  refine leaves_cons (f := 11) (args := #[.pointer (some ⟨sb, 3, none⟩)]) (by simp) (by simp [go_sem]) ?_
  refine (wunlock7 _ sb .returning h2).mono ?_
  rintro e u' w'' ⟨rfl, rfl, rfl⟩
  refine ⟨_, results_tmp rfl _ _ _, pb, rfl, ?_, (h2.set7 0).set3 0, (((hbl.trans (hb1.mono (by simp; omega))).setCell (p := ⟨sb, 7, none⟩) (Nat.le_refl _) _).setCell (p := ⟨sb, 3, none⟩) (Nat.le_refl _) _)⟩
  rw [World.cell?_setCell_other _ _ _ _ (by simp), World.cell?_setCell_other _ _ _ _ (by simp)]
  exact hpb

set_option maxRecDepth 100000 in
theorem aopen_any (w : World) (h n : Int) : Calls Ybaf.prog 4 #[.int .u64 h, .int .u64 n] w fun e w' => ∃ a, e = .returned (.pointer (some a)) ∧ Below w.heap.size w w' := by
  have hmm := @run_makeMap Ybaf.prog
  go_enter Ybaf.func4, Ybaf.ntmps4
  go_wp2
  go_ret
  exact ⟨_, rfl, (((Below.refl _ _).alloc (Nat.le_refl _) _).alloc (by simp) _).alloc (by simp; omega) _⟩

theorem StW.made (w : World) (lh ln : Int) : StW (w.alloc (.cells #[.string ⟨#[]⟩, .int .u64 0, .int .u64 0, .int .i32 0, .int .u32 0, .int .u32 0, .int .u32 0, .int .i32 0, .int .i32 0, .pointer none, .int .u64 lh, .int .u64 ln, .int .u64 0, .int .u64 0, .map none, .slice none 0 0, .map none, .int .i64 0, .pointer none, .nilIface] 53)) w.heap.size 0 0 lh ln 0 none := by
  refine ⟨?_, ?_, ?_, ?_, ?_, ?_, ?_, ?_, ?_, fun o => World.frozen?_alloc_at _ _ _ _ rfl⟩ <;> rw [World.cell?_alloc_at _ _ _ _ rfl] <;> rfl

set_option maxRecDepth 100000 in
set_option maxHeartbeats 400000 in
theorem refused_walk (F : Interp) (op : Bool) (h n : Int) (a0 a1 : Addr) (s1 : ByteArray) (w : World) (hwf : (Lit.int .u64 h).wf = true) (hF : F.answers w.tape)
    (hg0 : w.cell? ⟨0, 0, none⟩ = some (.iface 104 (.pointer (some a0)))) (hg1 : w.cell? ⟨1, 0, none⟩ = some (.iface 104 (.pointer (some a1)))) (hs1 : w.cell? a1 = some (.string s1)) :
    Calls Ybaf.prog 3 #[.bool op, .int .u64 h, .int .u64 n] w fun e w' => e = .returned (.bool true) ∧ Below w.heap.size w w' := by
  have hz : 1 < w.heap.size := World.block_lt_of_cell? _ _ hg1
  have ha1 := World.block_lt_of_cell? _ _ hs1
  have hs := StW.made w h n
  have hb0 := (Below.refl w.heap.size w).alloc (Nat.le_refl _) (.cells #[.string ⟨#[]⟩, .int .u64 0, .int .u64 0, .int .i32 0, .int .u32 0, .int .u32 0, .int .u32 0, .int .i32 0, .int .i32 0, .pointer none, .int .u64 h, .int .u64 n, .int .u64 0, .int .u64 0, .map none, .slice none 0 0, .map none, .int .i64 0, .pointer none, .nilIface] 53)
  cases op
  · go_enter Ybaf.func3, Ybaf.ntmps3
    go_wp2_with fail
    refine (inblock_any _ w.heap.size h n 0 none hs).mono ?_
    rintro e w1 ⟨rfl, h1, hb1⟩
    have hz1 : w.heap.size < w1.heap.size := by have := hb1.size; simp at this; omega
    have hbb1 := hb0.trans hb1
    clear hb0 hb1 hs
    go_wp2_with fail
    have hF1 : F.answers w1.tape := by rw [hbb1.tape]; exact hF
    refine (begin_order F w1 w.heap.size h n 0 a1 s1 h1 hwf hF1 ((hbb1.cell (p := ⟨1, 0, none⟩) hz).trans hg1) ((hbb1.cell ha1).trans hs1) ha1 hz1 hz).mono ?_
    rintro e w2 ⟨pb, rfl, hpb, h2, hb2⟩
    have hbb2 := hbb1.trans hb2
    have hgl : w2.cell? ⟨1, 0, none⟩ = some (.iface 104 (.pointer (some a1))) := (hbb2.cell (p := ⟨1, 0, none⟩) hz).trans hg1
    clear hbb1 hb2 h1
    go_wp2_with fail
    refine (is_wrap_same pb 0 a1 w2 hpb).mono ?_
    rintro e w3 ⟨rfl, rfl⟩
    go_wp2_with fail
    refine (inblock_any w3 w.heap.size h n 0 none h2).mono ?_
    rintro e w4 ⟨rfl, h4, hb4⟩
    have hbb4 := hbb2.trans hb4
    go_wp2
    go_ret
    exact ⟨rfl, hbb4⟩
  · go_enter Ybaf.func3, Ybaf.ntmps3
    go_wp2_with fail
    refine (aopen_any _ h n).mono ?_
    rintro e w0 ⟨a, rfl, hba⟩
    have hs0 : StW w0 w.heap.size 0 0 h n 0 none := hs.of_block (hba.block w.heap.size (by simp))
    have hbb0 := hb0.trans (hba.mono (by simp))
    have hs2 := hs0.set18 (some a)
    have hbb := hbb0.setCell (p := ⟨w.heap.size, 18, none⟩) (Nat.le_refl _) (.pointer (some a))
    have c18 := hs0.c18
    have f18 := hs0.free 18
    clear hs hb0 hba hs0 hbb0
    go_wp2_with fail
    refine (inblock_any _ w.heap.size h n 0 (some a) hs2).mono ?_
    rintro e w1 ⟨rfl, h1, hb1⟩
    have hbb1 := hbb.trans hb1
    clear hbb hb1 hs2 c18 f18
    go_wp2_with fail
    refine (begin_open w1 w.heap.size h n 0 h n a a0 h1 ((hbb1.cell (p := ⟨0, 0, none⟩) (by show 0 < w.heap.size; omega)).trans hg0)).mono ?_
    rintro e w2 ⟨rfl, h2, hb2⟩
    have hbb2 := hbb1.trans hb2
    have hgl : w2.cell? ⟨0, 0, none⟩ = some (.iface 104 (.pointer (some a0))) := (hbb2.cell (p := ⟨0, 0, none⟩) (by show 0 < w.heap.size; omega)).trans hg0
    clear hbb1 hb2 h1
    go_wp2_with fail
    refine (is_same a0 w2).mono ?_
    rintro e w3 ⟨rfl, rfl⟩
    go_wp2_with fail
    refine (inblock_any w3 w.heap.size h n 0 (some a) h2).mono ?_
    rintro e w4 ⟨rfl, h4, hb4⟩
    have hbb4 := hbb2.trans hb4
    go_wp2
    go_ret
    exact ⟨rfl, hbb4⟩
end Go.Proofs.YbulkagkqFmt
