import Derived.Test.YbulkagkqCnt
import Derived.WalkSpells
namespace Go.Proofs.Ybulkagkq
open Go.RowKit Hp Go.Maps

structure ExpS (w : World) (xb cb : Nat) (v : Value) (C : Int → Nat) (zs : List Int) : Prop where
  c0 : w.cell? ⟨xb, 0, none⟩ = some (.map (some cb))
  c1 : w.cell? ⟨xb, 1, none⟩ = some v
  free : ∀ o, w.frozen? ⟨xb, o, none⟩ = false
  owns : Owns w (xb + 1) v zs
  cnt : Cnt w cb C zs.length
  lt : xb < cb
  xlt : xb < w.heap.size

theorem ExpS.apart {w : World} {xb cb : Nat} {v : Value} {C : Int → Nat} {zs : List Int} (h : ExpS w xb cb v C zs) : some cb ≠ v.ownBlock := by
  intro e
  obtain ⟨es, clock, hb⟩ := h.cnt.isMap
  rcases h.owns.2 with ⟨h1, _⟩ | ⟨g, cap, cur, h1, _, h3, _⟩
  · rw [h1] at e; simp [Value.ownBlock] at e
  · rw [h1] at e
    simp [Value.ownBlock] at e
    subst e
    rw [hb] at h3
    cases h3

theorem eqn41 (m : Option Nat) (w : World) : (binOp .eql 41 (.map m) (.map none)).run Yba.prog w = .ok (.bool m.isNone) w := run_eql_map_nil w 41 22 22 m Yba.underlying41

theorem u64_wf {n : Nat} (h : n ≤ 1000000) : U (n : Int) := by
  have h1 : IntKind.u64.min = 0 := rfl
  have h2 : IntKind.u64.max = 18446744073709551615 := rfl
  simp only [U, Lit.wf, Bool.and_eq_true, decide_eq_true_eq]
  omega

/-- the state behind the store into the map -/
theorem ExpS.put {w w' : World} {xb cb : Nat} {v : Value} {C C' : Int → Nat} {zs : List Int} (h : ExpS w xb cb v C zs) (hc : Cnt w' cb C' zs.length) (hg : w.grownBy w' (some cb)) : ExpS w' xb cb v C' zs := by
  have hne : some xb ≠ some cb := by have := h.lt; simp; omega
  have hb := hg.block xb h.xlt hne
  exact ⟨(World.cell?_of_block (a := ⟨xb, 0, none⟩) hb).trans h.c0, (World.cell?_of_block (a := ⟨xb, 1, none⟩) hb).trans h.c1, fun o => (World.frozen?_of_block (a := ⟨xb, o, none⟩) hb).trans (h.free o),
    World.ownsRow.kept h.owns hg (.inr (fun e => h.apart e.symm)), hc, h.lt, Nat.lt_of_lt_of_le h.xlt hg.size⟩

theorem below_of_grown {w w' : World} {b B : Nat} (hg : w.grownBy w' (some b)) (hb : B ≤ b) (hB : B ≤ w.heap.size) : Below B w w' :=
  ⟨hg.os, hg.tape, hg.output, hg.size, fun k hk => hg.block k (by omega) (by simp; omega)⟩

theorem add_fin {w w1 : World} {xb cb : Nat} {v v' : Value} {C : Int → Nat} {zs zs' : List Int} {x : Int} (h : ExpS w xb cb v C zs) (hx : U x) (hz : C x = 0) (hm : zs.length ≤ 1024)
    (hp1 : w1.cell? ⟨xb, 1, none⟩ = some v') (ho1 : Owns w1 (xb + 1) v' zs') (hperm : zs'.Perm (zs ++ [x])) (ht : Turn w w1 xb v.ownBlock) :
    w1.cell? ⟨xb, 0, none⟩ = some (.map (some cb)) ∧ (Instr.lookup 41 (.map (some cb)) (.int .u64 x) false).run Yba.prog w1 = .ok (.int .u64 0) w1 ∧
    ∃ w2, (Instr.mapUpdate 41 (.map (some cb)) (.int .u64 x) (.int .u64 1)).run Yba.prog w1 = .ok () w2 ∧ ExpS w2 xb cb v' (upd C x 1) zs' ∧ Below xb w w2 := by
  have hcb1 : w1.heap[cb]? = w.heap[cb]? := ht.block cb h.cnt.lt (by have := h.lt; omega) h.apart
  have hcn1 : Cnt w1 cb C zs.length := h.cnt.of_block hcb1
  have h01 : w1.cell? ⟨xb, 0, none⟩ = some (.map (some cb)) := ht.c0.trans h.c0
  have hl1 := hcn1.look hx
  rw [hz] at hl1
  obtain ⟨w2, hrun0, hcn2, hg2⟩ := hcn1.put (by unfold maxLen; omega) hx (c := 1) (u64_wf (by omega)) (by decide)
  rw [if_pos hz] at hcn2
  have hzl : zs'.length = zs.length + 1 := by rw [hperm.length_eq]; simp
  have hne : some xb ≠ some cb := by have := h.lt; simp; omega
  have hb2 := hg2.block xb (Nat.lt_of_lt_of_le h.xlt ht.size) hne
  have hap : some cb ≠ v'.ownBlock := by
    intro e
    obtain ⟨es, clock, hbm⟩ := hcn1.isMap
    rcases ho1.2 with ⟨q1, _⟩ | ⟨g, cap, cur, q1, _, q3, _⟩
    · rw [q1] at e; simp [Value.ownBlock] at e
    · rw [q1] at e
      simp [Value.ownBlock] at e
      subst e
      rw [hbm] at q3
      cases q3
  refine ⟨h01, hl1, w2, hrun0, ?_, ?_⟩
  · exact ⟨(World.cell?_of_block (a := ⟨xb, 0, none⟩) hb2).trans h01, (World.cell?_of_block (a := ⟨xb, 1, none⟩) hb2).trans hp1, fun o => (World.frozen?_of_block (a := ⟨xb, o, none⟩) hb2).trans ((ht.fz o).trans (h.free o)),
        World.ownsRow.kept ho1 hg2 (.inr (fun e => hap e.symm)), by rw [hzl]; exact hcn2, h.lt, Nat.lt_of_lt_of_le h.xlt (Nat.le_trans ht.size hg2.size)⟩
  · exact (ht.below (fun j hj => by have := (World.ownsRow.lt h.owns j hj).1; omega) (by have := h.xlt; omega)).trans (below_of_grown hg2 (by have := h.lt; omega) (by have := h.xlt; have := ht.size; omega))

set_option maxRecDepth 100000 in
set_option maxHeartbeats 400000 in
theorem add_some (w : World) (xb cb : Nat) (v : Value) (C : Int → Nat) (zs : List Int) (x : Int) (h : ExpS w xb cb v C zs) (hx : U x) (hC : C x ≤ 1024) (hm : zs.length ≤ 1024) (hh : HeapN zs.length zs) :
    Calls Yba.prog 16 #[.pointer (some ⟨xb, 0, none⟩), .int .u64 x] w fun e w' => e = .returned (.tuple #[]) ∧ ∃ v' zs', ExpS w' xb cb v' (upd C x (C x + 1)) zs' ∧ HeapN zs'.length zs' ∧ (C x = 0 → zs'.Perm (zs ++ [x])) ∧ (C x ≠ 0 → zs' = zs) ∧ Below xb w w' := by
  have h0 := h.c0
  have h1 := h.c1
  have e41 := eqn41
  have hl := h.cnt.look hx
  by_cases hz : C x = 0
  · rw [hz] at hl
    go_enter Yba.func16, Yba.ntmps16
    go_wp2_with fail
    refine (hpush_any w xb (xb + 1) v zs x h.c1 (h.free 1) h.owns (by omega) h.xlt hm hh).mono ?_
    rintro e w1 ⟨rfl, v', zs', hp1, ho1, hperm, hheap, ht⟩
    obtain ⟨h01, hl1, w2, hrun, hS, hbel⟩ := add_fin h hx hz hm hp1 ho1 hperm ht
    have HF : Hid (ExpS w2 xb cb v' (upd C x 1) zs' ∧ Below xb w w2 ∧ zs'.Perm (zs ++ [x]) ∧ HeapN zs'.length zs') := ⟨hS, hbel, hperm, hheap⟩
    clear hS hbel hperm hheap ht ho1
    go_wp2
    go_end0
    have hf := HF.out
    refine ⟨rfl, v', zs', ?_, hf.2.2.2, fun _ => hf.2.2.1, fun hn => absurd hz hn, hf.2.1⟩
    rw [hz]; exact hf.1
  · have hlb : ((C x : Int) == 0) = false := beq_eq_false_iff_ne.2 (by omega)
    obtain ⟨w2, hrun0, hcn2, hg2⟩ := h.cnt.put (by unfold maxLen; omega) hx (c := C x + 1) (u64_wf (by omega)) (by omega)
    rw [if_neg hz] at hcn2
    have hrun : (Instr.mapUpdate 41 (.map (some cb)) (.int .u64 x) (.int .u64 ((C x : Int) + 1))).run Yba.prog w = .ok () w2 := hrun0
    clear hrun0
    have hS := h.put hcn2 hg2
    have hbel := below_of_grown hg2 (B := xb) (by have := h.lt; omega) (by have := h.xlt; omega)
    have HF : Hid (ExpS w2 xb cb v (upd C x (C x + 1)) zs ∧ Below xb w w2) := ⟨hS, hbel⟩
    clear hS hbel hcn2 hg2
    have hC1 : (C x : Int) ≤ 1024 := by omega
    generalize hcx : C x = cx at *
    go_enter Yba.func16, Yba.ntmps16
    go_wp2
    go_end0
    exact ⟨rfl, v, zs, HF.out.1, hh, fun e => absurd e hz, fun _ => rfl, HF.out.2⟩

set_option maxRecDepth 100000 in
set_option maxHeartbeats 400000 in
theorem add_nil (w : World) (xb : Nat) (x : Int) (h0 : w.cell? ⟨xb, 0, none⟩ = some (.map none)) (h1 : w.cell? ⟨xb, 1, none⟩ = some (.slice none 0 0)) (hf : ∀ o, w.frozen? ⟨xb, o, none⟩ = false) (hx : U x) (hlt : xb < w.heap.size) :
    Calls Yba.prog 16 #[.pointer (some ⟨xb, 0, none⟩), .int .u64 x] w fun e w' => e = .returned (.tuple #[]) ∧ ∃ cb v', ExpS w' xb cb v' (upd (fun _ => 0) x 1) [x] ∧ Below xb w w' := by
  have e41 := eqn41
  have hmm := @run_makeMap Yba.prog
  have hf0 := hf 0
  have hS : ExpS ((w.setCell ⟨xb, 0, none⟩ (.map (some w.heap.size))).alloc (.map #[] 0)) xb w.heap.size (.slice none 0 0) (fun _ => 0) [] := by
    have hb := Below.heap_alloc (w.setCell ⟨xb, 0, none⟩ (.map (some w.heap.size))) (.map #[] 0) xb (by simpa using hlt)
    refine ⟨?_, ?_, fun o => ?_, World.ownsRow_nil _ _ _ _, ?_, hlt, by simp; omega⟩
    · exact (World.cell?_of_block (a := ⟨xb, 0, none⟩) hb).trans (World.cell?_setCell_same _ _ _ h0)
    · exact (World.cell?_of_block (a := ⟨xb, 1, none⟩) hb).trans ((World.cell?_setCell_other _ _ _ _ (by simp)).trans h1)
    · exact (World.frozen?_of_block (a := ⟨xb, o, none⟩) hb).trans (by rw [World.frozen?_setCell]; exact hf o)
    · simpa using Cnt.made (w.setCell ⟨xb, 0, none⟩ (.map (some w.heap.size)))
  have hl := hS.cnt.look hx
  have hb0 : Below xb w ((w.setCell ⟨xb, 0, none⟩ (.map (some w.heap.size))).alloc (.map #[] 0)) := ((Below.refl _ _).setCell (p := ⟨xb, 0, none⟩) (Nat.le_refl _) _).alloc (by simp; omega) _
  go_enter Yba.func16, Yba.ntmps16
  go_wp2_with fail
  refine (hpush_any _ xb (xb + 1) (.slice none 0 0) [] x hS.c1 (hS.free 1) hS.owns (by omega) hS.xlt (by simp) (fun k h1 h2 => by simp at h2)).mono ?_
  rintro e w1 ⟨rfl, v', zs', hp1, ho1, hperm, hheap, ht⟩
  obtain ⟨h01, hl1, w2, hrun, hS2, hbel⟩ := add_fin hS hx rfl (by simp) hp1 ho1 hperm ht
  obtain rfl : zs' = [x] := by simpa using hperm
  have HF : Hid (ExpS w2 xb w.heap.size v' (upd (fun _ => 0) x 1) [x] ∧ Below xb w w2) := ⟨hS2, hb0.trans hbel⟩
  clear hS2 hbel hperm hheap ht ho1 hS hb0 hl
  go_wp2
  go_end0
  exact ⟨rfl, _, v', HF.out.1, HF.out.2⟩
end Go.Proofs.Ybulkagkq
