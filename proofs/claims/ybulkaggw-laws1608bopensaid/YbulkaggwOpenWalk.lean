import Derived.Test.YbulkaggwReg
namespace Go.Proofs.Ybulkaggw
open Go.RowKit Go.ChangeMaps

/-- what the walks are told of a []string that came in -/
def IsStrs (w : World) (a : Option Addr) (len cap : Nat) (ss : List ByteArray) : Prop :=
  (a = none ∧ len = 0 ∧ cap = 0) ∨ (∃ x, a = some x ∧ len = 0) ∨ ∃ b off, a = some ⟨b, off, none⟩ ∧ b < w.heap.size ∧ ∀ j, j < len → w.cell? ⟨b, off + j, none⟩ = some (.string (ss.getD j ByteArray.empty))

theorem make27z (w : World) : (Instr.makeSlice 27 (.int .i64 0) (.int .i64 0)).run Yba.prog w = .ok (.slice (some ⟨w.heap.size, 0, none⟩) 0 0) (w.alloc (.cells (madeCells zeroCl 0) 48)) := by
  simpa using make27 0 (by omega) w

set_option maxRecDepth 100000 in
set_option maxHeartbeats 400000 in
theorem blim_zero (w : World) (a : Option Addr) (cap : Nat) :
    Calls Yba.prog 5 #[.slice a 0 cap] w fun e w' => ∃ ca, e = .returned (.agg #[.int .u64 0, .int .i64 0, .pointer none, .slice ca 0 0]) ∧ Below w.heap.size w w' := by
  have e1 := nil22
  have e2 := make27z
  cases a with
  | none =>
    go_enter Yba.func5, Yba.ntmps5
    go_wp2
    go_loop [4] (fun i => i = .int .i64 0) (fun _ => 0)
    case atStart => rfl
    case round =>
      subst hrel
      go_wp2
      exact bodyPost_ret (v := .agg #[.int .u64 0, .int .i64 0, .pointer none, .slice none 0 0]) (by simp [results, Yba.results5, go_sem]) rfl ⟨⟨_, rfl⟩, (Below.refl _ _).alloc (Nat.le_refl _) _⟩
  | some x =>
    go_enter Yba.func5, Yba.ntmps5
    go_wp2
    go_loop [4] (fun i => i = .int .i64 0) (fun _ => 0)
    case atStart => rfl
    case round =>
      subst hrel
      go_wp2
      exact bodyPost_ret (v := .agg #[.int .u64 0, .int .i64 0, .pointer none, .slice (some ⟨w.heap.size + 1, 0, none⟩) 0 0]) (by simp [results, Yba.results5, go_sem]) rfl ⟨⟨_, rfl⟩, ((Below.refl _ _).alloc (Nat.le_refl _) _).alloc (by simp) _⟩

theorem blim_any (w : World) (a : Option Addr) (len cap : Nat) (ss : List ByteArray) (hl : len ≤ 1024) (ha : IsStrs w a len cap ss) :
    Calls Yba.prog 5 #[.slice a len cap] w fun e w' => ∃ ca, e = .returned (.agg #[.int .u64 0, .int .i64 0, .pointer none, .slice ca len len]) ∧ Below w.heap.size w w' ∧
      (0 < len → ca = some ⟨w.heap.size + 1, 0, none⟩ ∧ w.heap.size + 1 < w'.heap.size ∧ ClRow w' (w.heap.size + 1) len) := by
  rcases ha with ⟨rfl, rfl, rfl⟩ | ⟨x, rfl, rfl⟩ | ⟨b, off, rfl, hb, hc⟩
  · refine (blim_zero w none 0).mono ?_
    rintro e w' ⟨ca, rfl, hbel⟩
    exact ⟨ca, rfl, hbel, fun h => by omega⟩
  · refine (blim_zero w (some x) cap).mono ?_
    rintro e w' ⟨ca, rfl, hbel⟩
    exact ⟨ca, rfl, hbel, fun h => by omega⟩
  · refine (blim_some w b off len cap ss hl hb hc).mono ?_
    rintro e w' ⟨rfl, hbel, hsz, hrow⟩
    exact ⟨_, rfl, hbel, fun _ => ⟨rfl, by omega, hrow⟩⟩

theorem RegAt.drewN {w : World} {rb mb ib cb n : Nat} (h : RegAt w rb mb ib cb n) (q : Nat) : RegAt (w.drewN q) rb mb ib cb n := ⟨h.fe, h.fo, h.fb, h.fd, h.map, h.inner⟩
theorem below_drewN' {B : Nat} {a w : World} (h : Below B a w) (q : Nat) : Below B a (w.drewN q) := ⟨h.os, h.tape, h.output, h.size, h.block⟩
theorem eqn39 (m : Option Nat) (w : World) : (binOp .eql 39 (.map m) (.map none)).run Yba.prog w = .ok (.bool m.isNone) w := run_eql_map_nil w 39 45 43 m Yba.underlying39
theorem eqn43 (m : Option Nat) (w : World) : (binOp .eql 43 (.map m) (.map none)).run Yba.prog w = .ok (.bool m.isNone) w := run_eql_map_nil w 43 9 3 m Yba.underlying43

set_option maxRecDepth 100000 in
set_option maxHeartbeats 400000 in
theorem open_walk (w : World) (a : Option Addr) (len cap : Nat) (ss : List ByteArray) (x : Bool) (hm : len ≤ 9223372036854775807) (ha : IsStrs w a len cap ss) :
    Calls Yba.prog 3 #[.slice a len cap, .bool x] w fun e w' => e = .returned (.bool true) ∧ Below w.heap.size w w' := by
  by_cases hl : len ≤ 1024
  · have hl' : ¬ (1024 : Int) < (len : Int) := by omega
    go_enter Yba.func3, Yba.ntmps3
    go_wp2_with fail
    refine (blim_any w a len cap ss hl ha).mono ?_
    rintro e w1 ⟨ca, rfl, hb1, hcl⟩
    have hw1 := hb1.size
    have e39 := eqn39
    have e43 := eqn43
    cases x
    · go_wp2_with fail
      refine (reg_any _ (w.heap.size + 1) ca none len hl (fun h0 => ?_)).mono ?_
      · obtain ⟨h1, h2, h3⟩ := hcl h0
        exact ⟨h1, by simp; omega, h3.of_block (Below.heap_alloc _ _ _ h2)⟩
      rintro e w2 ⟨rb, mb, ib, rfl, hb2, hreg⟩
      have hbW : Below w.heap.size w w2 := (hb1.alloc (by omega) _).trans (hb2.mono (by simp; omega))
      have hc3 : w2.cell? ⟨w1.heap.size, 3, none⟩ = some (.slice ca len len) := by
        rw [hb2.cell (p := ⟨w1.heap.size, 3, none⟩) (by simp), World.cell?_alloc_at _ _ _ _ rfl]; rfl
      have hca : 0 < len → ca = some ⟨w.heap.size + 1, 0, none⟩ := fun h0 => (hcl h0).1
      clear hb1 hb2 hcl
      have g1 := hreg.fe
      have g2 := hreg.fo
      have g3 := hreg.fb
      have g4 := hreg.fd
      have l39 : ∀ nq ty, (Builtin.len_ #[39] ty #[.map (some mb)]).run Yba.prog (w2.drewN nq) = .ok (.int .i64 len) (w2.drewN nq) := fun nq ty => len39_run (w2.drewN nq) mb _ ib len hreg.map ty
      go_wp2
      go_quiet (fail)
      go_wp2
      clear g1 g2 g3 g4 l39
      go_loopw [8] (fun i wr => ∃ k : Nat, k ≤ len ∧ i = .int .i64 k ∧ Below w.heap.size w wr ∧ wr.cell? ⟨w1.heap.size, 3, none⟩ = some (.slice ca len len) ∧ RegAt wr rb mb ib (w.heap.size + 1) len) (fun i _ => len - (intOf i).toNat)
      case atStart => exact ⟨0, Nat.zero_le _, rfl, below_drewN' hbW _, hc3, hreg.drewN _⟩
      case round =>
        clear hbW hc3 hreg
        obtain ⟨k, hk, rfl, hbW, hc3, hreg⟩ := hrel
        by_cases hlt : k < len
        · obtain rfl := hca (by omega)
          have g2 := hreg.fo
          have hlook : ∀ nq, (Instr.lookup 39 (.map (some mb)) (.pointer (some ⟨w.heap.size + 1, k * 7, none⟩)) true).run Yba.prog (wr.drewN nq) = .ok (.tuple #[.map (some (ib + k)), .bool true]) (wr.drewN nq) := fun nq => look_run (wr.drewN nq) mb _ ib len k hlt hreg.map
          have hlen : ∀ nq ty, (Builtin.len_ #[43] ty #[.map (some (ib + k))]).run Yba.prog (wr.drewN nq) = .ok (.int .i64 0) (wr.drewN nq) := fun nq ty => len43_run (wr.drewN nq) (ib + k) (hreg.inner k hlt) ty
          go_wp2
          go_quiet (fail)
          go_wp2
          go_roundw
          case rel => exact ⟨k + 1, by omega, by go_num, below_drewN' hbW _, hc3, hreg.drewN _⟩
          case measure => simp [intOf]; omega
        · go_wp2
          go_ret
          exact ⟨rfl, hbW⟩
    · go_wp2_with fail
      refine (reg_any _ (w.heap.size + 1) ca (some ⟨w1.heap.size + 1, 0, none⟩) len hl (fun h0 => ?_)).mono ?_
      · obtain ⟨h1, h2, h3⟩ := hcl h0
        exact ⟨h1, by simp; omega, (h3.of_block (Below.heap_alloc _ _ _ h2)).of_block (Below.heap_alloc _ _ _ (by simp; omega))⟩
      rintro e w2 ⟨rb, mb, ib, rfl, hb2, hreg⟩
      have hbW : Below w.heap.size w w2 := ((hb1.alloc (by omega) _).alloc (by simp; omega) _).trans (hb2.mono (by simp; omega))
      have hc3 : w2.cell? ⟨w1.heap.size, 3, none⟩ = some (.slice ca len len) := by
        rw [hb2.cell (p := ⟨w1.heap.size, 3, none⟩) (by simp; omega), World.cell?_alloc_past _ _ _ (by simp), World.cell?_alloc_at _ _ _ _ rfl]; rfl
      have hca : 0 < len → ca = some ⟨w.heap.size + 1, 0, none⟩ := fun h0 => (hcl h0).1
      clear hb1 hb2 hcl
      have g1 := hreg.fe
      have g2 := hreg.fo
      have g3 := hreg.fb
      have g4 := hreg.fd
      have l39 : ∀ nq ty, (Builtin.len_ #[39] ty #[.map (some mb)]).run Yba.prog (w2.drewN nq) = .ok (.int .i64 len) (w2.drewN nq) := fun nq ty => len39_run (w2.drewN nq) mb _ ib len hreg.map ty
      go_wp2
      go_quiet (fail)
      go_wp2
      clear g1 g2 g3 g4 l39
      go_loopw [8] (fun i wr => ∃ k : Nat, k ≤ len ∧ i = .int .i64 k ∧ Below w.heap.size w wr ∧ wr.cell? ⟨w1.heap.size, 3, none⟩ = some (.slice ca len len) ∧ RegAt wr rb mb ib (w.heap.size + 1) len) (fun i _ => len - (intOf i).toNat)
      case atStart => exact ⟨0, Nat.zero_le _, rfl, below_drewN' hbW _, hc3, hreg.drewN _⟩
      case round =>
        clear hbW hc3 hreg
        obtain ⟨k, hk, rfl, hbW, hc3, hreg⟩ := hrel
        by_cases hlt : k < len
        · obtain rfl := hca (by omega)
          have g2 := hreg.fo
          have hlook : ∀ nq, (Instr.lookup 39 (.map (some mb)) (.pointer (some ⟨w.heap.size + 1, k * 7, none⟩)) true).run Yba.prog (wr.drewN nq) = .ok (.tuple #[.map (some (ib + k)), .bool true]) (wr.drewN nq) := fun nq => look_run (wr.drewN nq) mb _ ib len k hlt hreg.map
          have hlen : ∀ nq ty, (Builtin.len_ #[43] ty #[.map (some (ib + k))]).run Yba.prog (wr.drewN nq) = .ok (.int .i64 0) (wr.drewN nq) := fun nq ty => len43_run (wr.drewN nq) (ib + k) (hreg.inner k hlt) ty
          go_wp2
          go_quiet (fail)
          go_wp2
          go_roundw
          case rel => exact ⟨k + 1, by omega, by go_num, below_drewN' hbW _, hc3, hreg.drewN _⟩
          case measure => simp [intOf]; omega
        · go_wp2
          go_ret
          exact ⟨rfl, hbW⟩
  · have hl' : (1024 : Int) < (len : Int) := by omega
    go_enter Yba.func3, Yba.ntmps3
    go_wp2
    go_ret
    exact ⟨rfl, Below.refl _ _⟩
end Go.Proofs.Ybulkaggw
