import Derived.Test.YbulkagkqPop
import Derived.Test.YbulkagkqBuild
namespace Go.Proofs.Ybulkagkq
open Go.RowKit Hp Go.Maps

def timesLen (w : World) (xb : Nat) : Nat := match w.cell? ⟨xb, 1, none⟩ with | some (.slice _ n _) => n | _ => 0

theorem timesLen_eq {w : World} {xb n cap : Nat} {a : Option Addr} (h : w.cell? ⟨xb, 1, none⟩ = some (.slice a n cap)) : timesLen w xb = n := by
  simp [timesLen, h]

/-- the expiries hold just the identities R -/
structure Live (w : World) (xb cb : Nat) (v : Value) (R zs : List Int) : Prop where
  st : ExpS w xb cb v (fun y => R.count y) zs
  heap : HeapN zs.length zs
  nodup : zs.Nodup
  mem : ∀ y, y ∈ zs ↔ y ∈ R

theorem filter_ne_count (R : List Int) (t y : Int) : (R.filter (fun z => decide (z ≠ t))).count y = upd (fun y => R.count y) t 0 y := by
  unfold upd
  by_cases e : y = t
  · subst e
    simp [List.count_eq_zero]
  · rw [if_neg e, List.count_filter (by simpa using e)]

theorem filter_ne_length (R : List Int) (t : Int) : (R.filter (fun z => decide (z ≠ t))).length + R.count t = R.length := by
  induction R with
  | nil => rfl
  | cons a r ih =>
    rw [List.filter_cons, List.count_cons, List.length_cons]
    by_cases e : a = t
    · rw [if_neg (by simpa using e), if_pos (by simpa using e)]; omega
    · rw [if_pos (by simpa using e), if_neg (by simpa using e), List.length_cons]; omega

theorem el_mem {zs : List Int} {i : Nat} (h : i < zs.length) : el zs i ∈ zs := by
  simp [el, List.getD_eq_getElem?_getD, List.getElem?_eq_getElem h]

/-- one round of expire, on the state -/
theorem Live.popped {w w1 : World} {xb cb g cap m : Nat} {R zs zs' : List Int} (h : Live w xb cb (.slice (some ⟨g, 0, none⟩) (m + 1) cap) R zs) (hu : ∀ y ∈ R, U y) (h1 : w1.cell? ⟨xb, 1, none⟩ = some (.slice (some ⟨g, 0, none⟩) m cap)) (ho : Owns w1 (xb + 1) (.slice (some ⟨g, 0, none⟩) m cap) zs') (hperm : (zs' ++ [el zs 0]).Perm zs)
    (hheap : HeapN zs'.length zs') (hz : zs.length = m + 1) (hm : zs'.length = m) (ht : Turn w w1 xb (some g)) :
    w1.cell? ⟨xb, 0, none⟩ = some (.map (some cb)) ∧ (Instr.lookup 41 (.map (some cb)) (.int .u64 (el zs 0)) false).run Yba.prog w1 = .ok (.int .u64 (R.count (el zs 0))) w1 ∧
    ∃ w2, (∀ ty, (Builtin.delete_ #[41, 22] ty #[.map (some cb), .int .u64 (el zs 0)]).run Yba.prog w1 = .ok (.tuple #[]) w2) ∧ Live w2 xb cb (.slice (some ⟨g, 0, none⟩) m cap) (R.filter (fun z => decide (z ≠ el zs 0))) zs' ∧ Below xb w w2 := by
  have hmem : el zs 0 ∈ R := (h.mem _).1 (el_mem (by omega))
  have hU := hu _ hmem
  have hcnt : R.count (el zs 0) ≠ 0 := by have := List.count_pos_iff.2 hmem; omega
  have hS := h.st
  have hap := hS.apart
  have hcb1 : w1.heap[cb]? = w.heap[cb]? := ht.block cb hS.cnt.lt (by have := hS.lt; omega) hap
  have hcn1 := hS.cnt.of_block hcb1
  have h01 : w1.cell? ⟨xb, 0, none⟩ = some (.map (some cb)) := ht.c0.trans hS.c0
  obtain ⟨w2, hrun, hcn2, hg2⟩ : ∃ w2, (∀ ty, (Builtin.delete_ #[41, 22] ty #[.map (some cb), .int .u64 (el zs 0)]).run Yba.prog w1 = .ok (.tuple #[]) w2) ∧ Cnt w2 cb (upd (fun y => R.count y) (el zs 0) 0) (zs.length - 1) ∧ w1.grownBy w2 (some cb) := by
    obtain ⟨w2, hrun, hcn2, hg2⟩ := hcn1.del hU hcnt 0
    exact ⟨w2, fun ty => hrun, hcn2, hg2⟩
  have hne : some xb ≠ some cb := by have := hS.lt; simp; omega
  have hb2 := hg2.block xb (Nat.lt_of_lt_of_le hS.xlt ht.size) hne
  refine ⟨h01, hcn1.look hU, w2, hrun, ⟨⟨?_, ?_, ?_, ?_, ?_, hS.lt, ?_⟩, hheap, ?_, ?_⟩, ?_⟩
  · exact (World.cell?_of_block (a := ⟨xb, 0, none⟩) hb2).trans h01
  · exact (World.cell?_of_block (a := ⟨xb, 1, none⟩) hb2).trans h1
  · exact fun o => (World.frozen?_of_block (a := ⟨xb, o, none⟩) hb2).trans ((ht.fz o).trans (hS.free o))
  · exact World.ownsRow.kept ho hg2 (.inr (fun e => hap e.symm))
  · have e1 : (fun y => (R.filter (fun z => decide (z ≠ el zs 0))).count y) = upd (fun y => R.count y) (el zs 0) 0 := funext fun y => filter_ne_count R _ y
    rw [e1, hm]
    rw [hz] at hcn2
    exact hcn2
  · exact Nat.lt_of_lt_of_le hS.xlt (Nat.le_trans ht.size hg2.size)
  · have := (hperm.nodup_iff).2 h.nodup
    rw [List.nodup_append] at this
    exact this.1
  · intro y
    have hnd := (hperm.nodup_iff).2 h.nodup
    rw [List.nodup_append] at hnd
    have h3 := (hperm.mem_iff (a := y)).trans (h.mem y)
    simp only [List.mem_append, List.mem_singleton] at h3
    simp only [List.mem_filter, decide_eq_true_eq]
    constructor
    · intro hy
      exact ⟨h3.1 (.inl hy), fun e => hnd.2.2 y hy (el zs 0) (by simp) e⟩
    · rintro ⟨hy, hne⟩
      rcases h3.2 hy with h' | h'
      · exact h'
      · exact absurd h' hne
  · exact (ht.below (fun j hj => by have := (World.ownsRow.lt hS.owns j hj).1; omega) (by have := hS.xlt; omega)).trans (below_of_grown hg2 (by have := hS.lt; omega) (by have := hS.xlt; have := ht.size; omega))

theorem filter_gt_step (L R : List Int) (now t : Int) (ht : t ≤ now) (h : R.filter (fun z => decide (now < z)) = L.filter (fun z => decide (now < z))) : (R.filter (fun z => decide (z ≠ t))).filter (fun z => decide (now < z)) = L.filter (fun z => decide (now < z)) := by
  rw [← h, List.filter_filter]
  refine List.filter_congr fun z _ => ?_
  by_cases e : now < z
  · have : z ≠ t := by omega
    simp [e, this]
  · simp [e]

theorem rest_is {L R : List Int} {now : Int} (h : R.filter (fun z => decide (now < z)) = L.filter (fun z => decide (now < z))) (hall : ∀ y ∈ R, now < y) : L.filter (fun z => decide (now < z)) = R := by
  rw [← h]
  exact List.filter_eq_self.2 (fun y hy => by simpa using hall y hy)

theorem mem_el {zs : List Int} {y : Int} (h : y ∈ zs) : ∃ k, k < zs.length ∧ y = el zs k := by
  obtain ⟨k, hk, e⟩ := List.mem_iff_getElem.1 h
  exact ⟨k, hk, by simp [el, hk, e]⟩

set_option maxRecDepth 100000 in
set_option maxHeartbeats 400000 in
theorem expire_some (w : World) (xb cb : Nat) (v : Value) (L zs : List Int) (now : Int) (h : Live w xb cb v L zs) (hu : ∀ y ∈ L, U y) (hL : L.length ≤ 1024) (hz0 : zs.length ≤ 1024) :
    Calls Yba.prog 13 #[.pointer (some ⟨xb, 0, none⟩), .int .u64 now] w fun e w' => e = .returned (.int .u64 ((L.length - (L.filter (fun z => decide (now < z))).length : Nat) : Int)) ∧ (∃ v' zs', Live w' xb cb v' (L.filter (fun z => decide (now < z))) zs') ∧ Below xb w w' := by
  go_enter Yba.func13, Yba.ntmps13
  go_wp2
  go_loopw [5] (fun n wr => ∃ (v1 : Value) (R zs1 : List Int), n = .int .u64 ((L.length - R.length : Nat) : Int) ∧ Live wr xb cb v1 R zs1 ∧ Hid (R.filter (fun z => decide (now < z)) = L.filter (fun z => decide (now < z))) ∧ Hid (∀ y ∈ R, U y) ∧ R.length ≤ L.length ∧ zs1.length ≤ 1024 ∧ Below xb w wr) (fun _ wr => timesLen wr xb)
  case atStart => exact ⟨v, L, zs, by simp, h, rfl, hu, Nat.le_refl _, hz0, Below.refl _ _⟩
  case round =>
    clear h
    obtain ⟨v1, R, zs1, rfl, h, hfil, hru, hrl, hzl, hbel⟩ := hrel
    have c0 := h.st.c0
    have c1 := h.st.c1
    by_cases hz : zs1.length = 0
    · obtain ⟨a, cp, rfl⟩ : ∃ a cp, v1 = .slice a 0 cp := by
        rcases h.st.owns.shape with ⟨h1, _⟩ | ⟨g, cp, h1, _⟩
        · exact ⟨_, _, h1⟩
        · exact ⟨_, _, by rw [h1, hz]⟩
      have HR : Hid (L.filter (fun z => decide (now < z)) = R) := rest_is hfil.out (fun y hy => by
        have := (h.mem y).2 hy
        rw [List.eq_nil_of_length_eq_zero hz] at this
        simp at this)
      go_wp2
      go_ret
      rw [HR.out]
      exact ⟨rfl, ⟨_, zs1, h⟩, hbel⟩
    · obtain ⟨m, hm⟩ : ∃ m, zs1.length = m + 1 := ⟨zs1.length - 1, by omega⟩
      obtain ⟨g, cp, rfl, hg⟩ : ∃ g cp, v1 = .slice (some ⟨g, 0, none⟩) (m + 1) cp ∧ xb + 1 ≤ g := by
        rcases h.st.owns.shape with ⟨_, h1⟩ | ⟨g, cp, h1, h2, _⟩
        · rw [h1] at hz; simp at hz
        · exact ⟨g, cp, by rw [h1, hm], h2⟩
      have hcell := h.st.owns.cell 0 (by omega)
      obtain ⟨t, ht⟩ : ∃ t, t = el zs1 0 := ⟨_, rfl⟩
      have HT : Hid (t = el zs1 0) := ht
      rw [← ht] at hcell
      have HM : Hid (zs1.length = m + 1) := hm
      have hm1 : m ≤ 1024 := by omega
      clear ht hm
      by_cases hle : t ≤ now
      · go_wp2_with fail
        refine (hpop_any wr xb (xb + 1) g cp m zs1 h.st.c1 (h.st.free 1) HM.out h.st.owns (by omega) hg hm1 h.heap).mono ?_
        rintro e w1 ⟨rfl, zs2, hp1, ho1, hperm, hheap, hlen2, ht1⟩
        obtain ⟨h01, hlk, w2, hdel, hL2, hb2⟩ := h.popped hru.out hp1 ho1 hperm hheap HM.out hlen2 ht1
        rw [← HT.out] at hlk hdel hL2
        have hta := assert22 t
        rw [← HT.out]
        have hcl := List.count_le_length (a := t) (l := R)
        have hfl := filter_ne_length R t
        have hu2 : ∀ y ∈ R.filter (fun z => decide (z ≠ t)), U y := fun y hy => hru.out y (List.mem_filter.1 hy).1
        have hstep := filter_gt_step L R now t hle hfil.out
        have HF : Hid (Live w2 xb cb (.slice (some ⟨g, 0, none⟩) m cp) (R.filter (fun z => decide (z ≠ t))) zs2 ∧ Below xb wr w2 ∧ (R.filter (fun z => decide (z ≠ t))).filter (fun z => decide (now < z)) = L.filter (fun z => decide (now < z)) ∧ (∀ y ∈ R.filter (fun z => decide (z ≠ t)), U y) ∧ (R.filter (fun z => decide (z ≠ t))).length + R.count t = R.length ∧ zs2.length = m ∧ timesLen wr xb = m + 1 ∧ timesLen w2 xb = m) :=
          ⟨hL2, hb2, hstep, hu2, hfl, hlen2, timesLen_eq h.st.c1, timesLen_eq hL2.st.c1⟩
        clear hL2 hb2 hstep hu2 hfl hlen2 hperm hheap ht1 ho1
        generalize R.count t = ct at *
        go_wp2
        obtain ⟨f1, f2, f3, f4, f5, f6, f7, f8⟩ := HF.out
        go_roundw
        case rel => exact ⟨_, _, zs2, by rw [show ((L.length - (R.filter (fun z => decide (z ≠ t))).length : Nat) : Int) = ((L.length - R.length : Nat) : Int) + (ct : Int) by omega], f1, f3, f4, by omega, by omega, hbel.trans f2⟩
        case measure => rw [f7, f8]; omega
      · have hleb : decide (t ≤ now) = false := by simpa using hle
        have HR : Hid (L.filter (fun z => decide (now < z)) = R) := rest_is hfil.out (fun y hy => by
          obtain ⟨k, hk, e⟩ := mem_el ((h.mem y).2 hy)
          have := heap_root h.heap k hk
          rw [← HT.out, ← e] at this
          omega)
        go_wp2
        go_ret
        rw [HR.out]
        exact ⟨rfl, ⟨_, zs1, h⟩, hbel⟩

set_option maxRecDepth 100000 in
theorem expire_nil (w : World) (xb : Nat) (now : Int) (h1 : w.cell? ⟨xb, 1, none⟩ = some (.slice none 0 0)) :
    Calls Yba.prog 13 #[.pointer (some ⟨xb, 0, none⟩), .int .u64 now] w fun e w' => e = .returned (.int .u64 0) ∧ w' = w := by
  go_enter Yba.func13, Yba.ntmps13
  go_wp2
  go_loop [5] (fun n => n = .int .u64 0) (fun _ => 0)
  case atStart => rfl
  case round =>
    subst hrel
    go_wp2
    go_ret
    exact ⟨rfl, rfl⟩
end Go.Proofs.Ybulkagkq
