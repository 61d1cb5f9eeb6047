import Derived.Test.YbulkagkqUp
import Derived.Maps.AppendAt
import Derived.Deep.RegionLaw
namespace Go.Proofs.Ybulkagkq
open Go.RowKit Hp

theorem Yba.info22 : (Yba.prog.info? 22).map (fun i => (i.zero, i.size, i.bytes)) = some (some (.int .u64 0), 1, 8) := by kernel_rfl

/-- what a call on the expiries in block xb may turn: the times' cell, the times' old row, new blocks -/
structure Turn (w w' : World) (xb : Nat) (row : Option Nat) : Prop where
  os : w'.os = w.os
  tape : w'.tape = w.tape
  output : w'.output = w.output
  size : w.heap.size ≤ w'.heap.size
  block : ∀ k, k < w.heap.size → k ≠ xb → some k ≠ row → w'.heap[k]? = w.heap[k]?
  c0 : w'.cell? ⟨xb, 0, none⟩ = w.cell? ⟨xb, 0, none⟩
  fz : ∀ o, w'.frozen? ⟨xb, o, none⟩ = w.frozen? ⟨xb, o, none⟩

theorem Turn.of_grown {w w' : World} {xb : Nat} {row : Option Nat} (h : w.grownBy w' row) (hx : xb < w.heap.size) (hr : some xb ≠ row) : Turn w w' xb row :=
  ⟨h.os, h.tape, h.output, h.size, fun k hk _ hr' => h.block k hk hr', World.cell?_of_block (a := ⟨xb, 0, none⟩) (h.block xb hx hr), fun o => World.frozen?_of_block (a := ⟨xb, o, none⟩) (h.block xb hx hr)⟩

theorem Turn.trans {a b c : World} {xb : Nat} {row row' : Option Nat} (h : Turn a b xb row) (k : Turn b c xb row') (hr : ∀ j, row' = some j → row = some j ∨ a.heap.size ≤ j) : Turn a c xb row :=
  ⟨k.os.trans h.os, k.tape.trans h.tape, k.output.trans h.output, Nat.le_trans h.size k.size, fun i hi hx hne => (k.block i (Nat.lt_of_lt_of_le hi h.size) hx (fun e => by rcases hr i e.symm with h' | h'
                                                                                                                                                                           · exact hne h'.symm
                                                                                                                                                                           · omega)).trans (h.block i hi hx hne), k.c0.trans h.c0, fun o => (k.fz o).trans (h.fz o)⟩

theorem Turn.set1 {w w' : World} {xb : Nat} {row : Option Nat} (h : Turn w w' xb row) (v : Value) : Turn w (w'.setCell ⟨xb, 1, none⟩ v) xb row :=
  ⟨h.os, h.tape, h.output, by simpa using h.size, fun k hk hx hr => (Below.heap_setCell _ _ _ _ (by simpa using hx)).trans (h.block k hk hx hr), (World.cell?_setCell_other _ _ _ _ (by simp)).trans h.c0, fun o => by rw [World.frozen?_setCell]; exact h.fz o⟩

theorem Turn.below {w w' : World} {xb : Nat} {row : Option Nat} (h : Turn w w' xb row) (hr : ∀ j, row = some j → xb ≤ j) (hx : xb ≤ w.heap.size) : Below xb w w' :=
  ⟨h.os, h.tape, h.output, h.size, fun k hk => h.block k (by omega) (by omega) (fun e => by have := hr k e.symm; omega)⟩

/-- the builtin append, by an equation on its run, as one step of a region that draws its order -/
theorem step_append_run {P : Program} {ops : Array Oper} {o : Oper} {a : Act} {w : World} {K : Act → World → Prop} {Q : Exit → Act → World → Prop} {E : Prop}
    (hg : o.guard = none) (s x : Operand) (t : TypeId) (hop : o.op = Op.call { callee := Callee.builtin Builtin.append, args := #[s, x], argTypes := #[t, t] })
    (vs vx v' : Value) (w' : World) (hs : a.eval s = vs) (hx : a.eval x = vx) (hrun : (Builtin.append_ #[t, t] o.type #[vs, vx]).run P w = .ok v' w')
    (hK : K (a.put o.dst v') w') : if Region.wanted o (yielded ops a.tmps) = true then Oper.wp P o a w K Q else E := by
  have hw : Region.wanted o (yielded ops a.tmps) = true := by simp [Region.wanted, hg]
  rw [if_pos hw]
  unfold Oper.wp
  simp [execOp, hop, resolve, invoke, builtin, hs, hx, hrun, Result.andThen]
  exact hK

theorem assert22 (x : Int) (w : World) : (Instr.typeAssert (.iface 22 (.int .u64 x)) 20 22 false).run Yba.prog w = .ok (.int .u64 x) w := by kernel_rfl

set_option maxRecDepth 100000 in
set_option maxHeartbeats 400000 in
theorem push_any (w : World) (xb base : Nat) (v : Value) (zs : List Int) (x : Int) (hp : w.cell? ⟨xb, 1, none⟩ = some v) (hf : w.frozen? ⟨xb, 1, none⟩ = false) (h : Owns w base v zs) (hb : xb < base) (hbs : base ≤ w.heap.size) (hm : zs.length ≤ 1024) :
    Calls Yba.prog 56 #[.pointer (some ⟨xb, 1, none⟩), .iface 22 (.int .u64 x)] w fun e w' => e = .returned (.tuple #[]) ∧ ∃ v', w'.cell? ⟨xb, 1, none⟩ = some v' ∧ Owns w' base v' (zs ++ [x]) ∧ Turn w w' xb v.ownBlock ∧ (∀ g, v'.ownBlock = some g → v.ownBlock = some g ∨ w.heap.size ≤ g) := by
  obtain ⟨i0, hi, hz0, hz1, hz2⟩ := info_parts Yba.info22
  obtain ⟨v', w2, hrun, hown, hgrow, hnil, hloc⟩ := run_append_own_at (P := Yba.prog) (w.alloc (.cells #[.int .u64 x] 22)).drew base 43 43 22 i0 (.int .u64 0) 1 8 Yba.underlying43 hi hz0 hz1 hz2 rfl (by decide) v zs.length (zs.map (Value.int .u64))
    ((World.ownsRow.alloc h _).drew) ⟨w.heap.size, 0, none⟩ 1 1 [.int .u64 x] rfl (cell_one_new w _ _) (by intro u hu; simp at hu; subst hu; rfl) (by unfold maxLen; omega) (by omega) (by simp; omega)
  obtain ⟨g', cap', rfl⟩ : ∃ g' cap', v' = .slice (some ⟨g', 0, none⟩) (zs.length + 1) cap' := by
    rcases hown.2 with ⟨_, h2⟩ | ⟨g, cap, cur, h1, _⟩
    · omega
    · exact ⟨g, cap, h1⟩
  have hbk : ∀ k, v.ownBlock = some k → base ≤ k := fun k hk => (World.ownsRow.lt h k hk).1
  have hxr : some xb ≠ v.ownBlock := fun e => by have := hbk xb e.symm; omega
  have ht1 : Turn w (w.alloc (.cells #[.int .u64 x] 22)).drew xb v.ownBlock := Turn.of_grown (grown_drewN (World.grownBy_alloc w (.cells #[.int .u64 x] 22) v.ownBlock) 1) (by omega) hxr
  have ht : Turn w w2 xb v.ownBlock := ht1.trans (Turn.of_grown hgrow (by simp; omega) hxr) (fun j hj => .inl hj)
  have hp2 : w2.cell? ⟨xb, 1, none⟩ = some v := (World.cell?_of_block (a := ⟨xb, 1, none⟩) ((hgrow.block xb (by simp; omega) hxr).trans (Below.heap_alloc _ _ _ (by show xb < w.heap.size; omega)))).trans hp
  have hf2 : w2.frozen? ⟨xb, 1, none⟩ = false := (ht.fz 1).trans hf
  have hlt : xb < w.heap.size := by omega
  have hown2 : Owns (w2.setCell ⟨xb, 1, none⟩ (.slice (some ⟨g', 0, none⟩) (zs.length + 1) cap')) base (.slice (some ⟨g', 0, none⟩) (zs.length + 1) cap') (zs ++ [x]) := by
    have := ownsRow_setCell_below hown (a := ⟨xb, 1, none⟩) hb (.slice (some ⟨g', 0, none⟩) (zs.length + 1) cap')
    simpa [Owns] using this
  have htt := ht.set1 (.slice (some ⟨g', 0, none⟩) (zs.length + 1) cap')
  have hpp : (w2.setCell ⟨xb, 1, none⟩ (.slice (some ⟨g', 0, none⟩) (zs.length + 1) cap')).cell? ⟨xb, 1, none⟩ = some (.slice (some ⟨g', 0, none⟩) (zs.length + 1) cap') := World.cell?_setCell_same _ _ _ hp2
  have HT : Hid (Owns (w2.setCell ⟨xb, 1, none⟩ (.slice (some ⟨g', 0, none⟩) (zs.length + 1) cap')) base (.slice (some ⟨g', 0, none⟩) (zs.length + 1) cap') (zs ++ [x]) ∧ Turn w (w2.setCell ⟨xb, 1, none⟩ (.slice (some ⟨g', 0, none⟩) (zs.length + 1) cap')) xb v.ownBlock ∧ (w2.setCell ⟨xb, 1, none⟩ (.slice (some ⟨g', 0, none⟩) (zs.length + 1) cap')).cell? ⟨xb, 1, none⟩ = some (.slice (some ⟨g', 0, none⟩) (zs.length + 1) cap')) := ⟨hown2, htt, hpp⟩
  have HL : Hid (∀ g, (Value.slice (some ⟨g', 0, none⟩) (zs.length + 1) cap').ownBlock = some g → v.ownBlock = some g ∨ w.heap.size ≤ g) := fun g hg => by
    rcases hloc with e | e
    · exact .inl (e.symm.trans hg)
    · rw [e] at hg; simp at hg; exact .inr (by omega)
  clear hloc hown hgrow hnil ht1 ht hown2 htt hpp hbk hxr hi hz0 hz1 hz2 h
  have HR : Hid ((Builtin.append_ #[43, 43] 43 #[v, .slice (some ⟨w.heap.size, 0, none⟩) 1 1]).run Yba.prog (w.alloc (.cells #[.int .u64 x] 22)).drew = .ok (.slice (some ⟨g', 0, none⟩) (zs.length + 1) cap') w2) := hrun
  clear hrun
  have hta := assert22 x
  go_enter Yba.func56, Yba.ntmps56
  go_wp2
  go_region_law (refine step_append_run rfl (.tmp 7) (.tmp 10) 43 rfl _ _ _ w2 rfl rfl HR.out ?_)
  all_goals
    go_end0
    exact ⟨rfl, _, HT.out.2.2, HT.out.1, HT.out.2.1, HL.out⟩

set_option maxRecDepth 100000 in
theorem len_any (w : World) (a : Option Addr) (n cap : Nat) : Calls Yba.prog 51 #[.slice a n cap] w fun e w' => e = .returned (.int .i64 n) ∧ w' = w := by
  go_enter Yba.func51, Yba.ntmps51
  go_wp2
  go_ret
  exact ⟨rfl, rfl⟩

set_option maxRecDepth 100000 in
set_option maxHeartbeats 400000 in
/-- container/heap.Push -/
theorem hpush_any (w : World) (xb base : Nat) (v : Value) (zs : List Int) (x : Int) (hp : w.cell? ⟨xb, 1, none⟩ = some v) (hf : w.frozen? ⟨xb, 1, none⟩ = false) (h : Owns w base v zs) (hb : xb < base) (hbs : base ≤ w.heap.size) (hm : zs.length ≤ 1024) (hh : HeapN zs.length zs) :
    Calls Yba.prog 26 #[.iface 74 (.pointer (some ⟨xb, 1, none⟩)), .iface 22 (.int .u64 x)] w fun e w' => e = .returned (.tuple #[]) ∧ ∃ v' zs', w'.cell? ⟨xb, 1, none⟩ = some v' ∧ Owns w' base v' zs' ∧ zs'.Perm (zs ++ [x]) ∧ HeapN zs'.length zs' ∧ Turn w w' xb v.ownBlock := by
  have hmp := meth_push w xb 1
  go_enter Yba.func26, Yba.ntmps26
  go_wp2_with fail
  refine (push_any w xb base v zs x hp hf h hb hbs hm).mono ?_
  rintro e w1 ⟨rfl, v1, hp1, h1, ht1, hloc⟩
  rcases h1.shape with ⟨_, h2⟩ | ⟨g, cap, rfl, hbg, hlc, hcm⟩
  · simp at h2
  have hml := meth_len w1 ⟨xb, 1, none⟩ _ hp1
  have hlen : (zs ++ [x]).length = zs.length + 1 := by simp
  rw [hlen] at hp1 hml
  have HH : Hid (Owns w1 base (.slice (some ⟨g, 0, none⟩) (zs.length + 1) cap) (zs ++ [x])) := by rw [hlen] at h1; exact h1
  clear h1 hlen
  go_wp2_with fail
  refine (len_any w1 _ _ _).mono ?_
  rintro e w2 ⟨rfl, rfl⟩
  go_wp2_with fail
  refine (up_any w2 xb base g cap (zs.length + 1) (zs ++ [x]) zs.length hp1 (by simp) HH.out hb hbg (by omega) (up_push x hh)).mono ?_
  rintro e w3 ⟨rfl, zs', ho, hperm, hheap, hg3⟩
  go_wp2
  go_end0
  have hxg : some xb ≠ some g := by simp; omega
  have hsz := ht1.size
  exact ⟨rfl, _, zs', hg3.cell hp1 hxg, ho, hperm, hheap, ht1.trans (Turn.of_grown hg3 (by omega) hxg) (fun j hj => hloc j hj)⟩
end Go.Proofs.Ybulkagkq
