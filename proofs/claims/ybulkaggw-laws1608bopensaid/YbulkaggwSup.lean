import Derived.Test.YbulkaggwPmap
namespace Go.Proofs.Ybulkaggw
open Go.RowKit Go.ChangeMaps
theorem Yba.info59 : (Yba.prog.info? 59).map (fun i => (i.zero, i.size, i.bytes)) = some (some (.pointer none), 1, 8) := by kernel_rfl

theorem make50 (n : Nat) (h : n ≤ 1024) (w : World) : (Instr.makeSlice 50 (.int .i64 (n : Int)) (.int .i64 (n : Int))).run Yba.prog w = .ok (.slice (some ⟨w.heap.size, 0, none⟩) n n) (w.alloc (.cells (madeCells #[.pointer none] n) 59)) :=
  run_make_row' 50 59 (.pointer none) 8 Yba.underlying50 Yba.info59 rfl .i64 .i64 n (by omega) (by omega) w

/-- the supervisor's own blocks while its loop goes -/
structure SupAt (w : World) (N n : Nat) : Prop where
  sz : N + 3 ≤ w.heap.size
  fld : w.cell? ⟨N + 2, 5, none⟩ = some (.slice (some ⟨N + 1, 0, none⟩) n n)
  grp : ∀ i, i < n → ∃ v, w.cell? ⟨N + 1, i, none⟩ = some v
  free : ∀ o, w.frozen? ⟨N + 1, o, none⟩ = false

theorem SupAt.alloc {w : World} {N n : Nat} (h : SupAt w N n) (o : Obj) : SupAt (w.alloc o) N n := by
  have hs := h.sz
  have hb : ∀ k, k < w.heap.size → (w.alloc o).heap[k]? = w.heap[k]? := fun k hk => Below.heap_alloc _ _ _ hk
  exact ⟨by simp; omega, (World.cell?_of_block (a := ⟨N + 2, 5, none⟩) (hb _ (by simp; omega))).trans h.fld, fun i hi => by
    obtain ⟨v, hv⟩ := h.grp i hi
    exact ⟨v, (World.cell?_of_block (a := ⟨N + 1, i, none⟩) (hb _ (by simp; omega))).trans hv⟩, fun o' => (World.frozen?_of_block (a := ⟨N + 1, o', none⟩) (hb _ (by simp; omega))).trans (h.free o')⟩

theorem SupAt.set {w : World} {N n : Nat} (h : SupAt w N n) (k : Nat) (v : Value) : SupAt (w.setCell ⟨N + 1, k, none⟩ v) N n :=
  ⟨by simpa using h.sz, (World.cell?_setCell_other _ _ _ _ (by simp)).trans h.fld, fun i hi => by
    obtain ⟨u, hu⟩ := h.grp i hi
    exact cell?_setCell_some hu, fun o => by rw [World.frozen?_setCell]; exact h.free o⟩

set_option maxRecDepth 100000 in
set_option maxHeartbeats 400000 in
theorem sup_any (w : World) (ca sec : Option Addr) (n : Nat) (hn : n ≤ 1024) (hcl : 0 < n → ∃ cb, ca = some ⟨cb, 0, none⟩ ∧ cb < w.heap.size ∧ ClRow w cb n) :
    Calls Yba.prog 7 #[.agg #[.int .u64 0, .int .i64 0, .pointer none, .slice ca n n], .pointer sec] w fun e w' => ∃ sb, e = .returned (.pointer (some ⟨sb, 0, none⟩)) ∧ Below w.heap.size w w' := by
  have e2 := make50 n hn
  go_enter Yba.func7, Yba.ntmps7
  go_wp2
  go_region
  clear e2
  go_wp2
  go_loopw [19] (fun i wr => ∃ k : Nat, k ≤ n ∧ i = .int .i64 k ∧ Below w.heap.size w wr ∧ SupAt wr w.heap.size n)
    (fun i _ => n - (intOf i).toNat)
  case atStart =>
    refine ⟨0, Nat.zero_le _, rfl, ((((Below.refl _ _).alloc (Nat.le_refl _) _).alloc (by simp) _).alloc (by simp; omega) _).drew, ?_⟩
    refine ⟨by simp, ?_, fun i hi => ?_, fun o => ?_⟩
    · rw [World.cell?_drew, World.cell?_alloc_at _ _ _ _ (by simp)]; rfl
    · rw [World.cell?_drew, World.cell?_alloc_past _ _ _ (by simp), World.cell?_alloc_at _ _ _ _ (by simp)]
      exact ⟨_, Array.getElem?_eq_getElem (by simpa [size_madeCells] using hi)⟩
    · rw [World.frozen?_drew, World.frozen?_alloc_past _ _ _ (by simp), World.frozen?_alloc_at _ _ _ _ (by simp)]
  case round =>
    obtain ⟨k, hk, rfl, hbel, hsup⟩ := hrel
    by_cases hlt : k < n
    · obtain ⟨cb, rfl, hcb, hrow⟩ := hcl (by omega)
      obtain ⟨s, r0, r1, r2, r3, r4, r5, r6⟩ := (hrow.of_block (hbel.block cb hcb)).row k hlt
      obtain ⟨v, hv⟩ := hsup.grp k hlt
      have hfv := hsup.free k
      have hfl := hsup.fld
      have hs1 := hsup.sz
      have hs2 : w.heap.size + 1 < wr.heap.size := by omega
      have hs0 : w.heap.size < wr.heap.size := by omega
      have hs3 : w.heap.size + 2 < wr.heap.size := by omega
      go_wp2
      · go_roundw
        case rel => exact ⟨k + 1, by omega, by go_num, ((hbel.setCell (p := ⟨w.heap.size + 1, k, none⟩) (by simp) _).alloc (by simp; omega) _).alloc (by simp; omega) _, ((hsup.set _ _).alloc _).alloc _⟩
        case measure => simp [intOf]; omega
      · go_roundw
        case rel => exact ⟨k + 1, by omega, by go_num, hbel.alloc (by omega) _, hsup.alloc _⟩
        case measure => simp [intOf]; omega
    · go_wp2
      go_ret
      exact ⟨_, rfl, hbel⟩
end Go.Proofs.Ybulkaggw
