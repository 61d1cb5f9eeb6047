import Derived.Test.YbulkagkqBuild
namespace Go.Proofs.Ybulkagkq
open Go.RowKit Hp Go.Maps

theorem IsRow.len_le {k : IntKind} {w : World} {a : Option Addr} {len cap : Nat} {zs : List Int} (h : IsRow k w a len cap zs) : len ≤ maxLen := by
  rcases h with ⟨_, h2, _⟩ | ⟨x, _, h1, h2, _⟩
  · rw [h2]; exact Nat.zero_le _
  · exact Nat.le_trans h1 h2

theorem below_drewN' {B : Nat} {a w : World} (h : Below B a w) (q : Nat) : Below B a (w.drewN q) := ⟨h.os, h.tape, h.output, h.size, h.block⟩
theorem ExpS.drewN {w : World} {xb cb : Nat} {v : Value} {C : Int → Nat} {zs : List Int} (h : ExpS w xb cb v C zs) (q : Nat) : ExpS (w.drewN q) xb cb v C zs :=
  ⟨h.c0, h.c1, h.free, h.owns, h.cnt.of_block rfl, h.lt, h.xlt⟩
theorem Inp.drewN {w : World} {a : Option Addr} {len : Nat} {L : List Int} (h : Inp w a len L) (q : Nat) : Inp (w.drewN q) a len L := ⟨h.hlen, h.at', h.wf⟩

theorem len41_nil (ty : TypeId) (w : World) : (Builtin.len_ #[41] ty #[.map none]).run Yba.prog w = .ok (.int .i64 0) w := Maps.len_nil (k := 22) (e := 22) Yba.underlying41 ty

set_option maxRecDepth 100000 in
set_option maxHeartbeats 400000 in
theorem counts_walk (a : Option Addr) (len cap : Nat) (L : List Int) (w : World) (hmx : len ≤ maxLen) (h : Inp w a len L) :
    Calls Yba.prog 4 #[.slice a len cap] w fun e w' => e = .returned (.bool true) ∧ Below w.heap.size w w' := by
  unfold maxLen at hmx
  by_cases hl : len ≤ 1024
  · have hl' : ¬ (1024 : Int) < (len : Int) := by omega
    go_enter Yba.func4, Yba.ntmps4
    go_wp2_with fail
    refine (build_any w a len cap L h hl).mono ?_
    rintro e w1 ⟨rfl, hb1, hB⟩
    rcases hB with ⟨rfl, b0, b1, bf, bx⟩ | ⟨hk0, cb, v, zs, hS, hH, hN, hM, hZ⟩
    · have hln := len41_nil
      have h1 := h.below hb1
      go_wp2
      go_loop [14] (fun i => i = .int .i64 0) (fun _ => 0)
      case atStart => rfl
      case round =>
        subst hrel
        go_wp2_with fail
        refine (distinct_any w1 a 0 cap L h1 (by omega)).mono ?_
        rintro e w2 ⟨rfl, rfl⟩
        have hd : ((dcTo L 0 : Nat) : Int) = 0 := rfl
        go_wp2
        go_ret
        exact ⟨rfl, hb1⟩
    · obtain ⟨b, off, rfl, hb, hc⟩ := h.at' hk0
      have h0 := hS.c0
      have h1 := hS.c1
      have HB : Hid (zs.length = dcTo L len) := hZ
      clear hZ
      go_wp2
      clear h0 h1
      go_loopw [14] (fun i wr => ∃ k : Nat, k ≤ len ∧ i = .int .i64 k ∧ Below w.heap.size w wr ∧ ExpS wr w.heap.size cb v (fun y => (L.take len).count y) zs) (fun i _ => len - (intOf i).toNat)
      case atStart => exact ⟨0, Nat.zero_le _, rfl, hb1, hS⟩
      case round =>
        clear hS hb1
        obtain ⟨k, hk, rfl, hb1, hS⟩ := hrel
        have h0 := hS.c0
        have h1 := hS.c1
        by_cases hlt : k < len
        · have hck : wr.cell? ⟨b, off + k, none⟩ = some (.int .u64 (el L k)) := (hb1.cell (p := ⟨b, off + k, none⟩) hb).trans (hc k hlt)
          have hU := h.uel hlt
          have hlook : ∀ nq, (Instr.lookup 41 (.map (some cb)) (.int .u64 (el L k)) false).run Yba.prog (wr.drewN nq) = .ok (.int .u64 (L.count (el L k))) (wr.drewN nq) := fun nq => by
            have := (hS.drewN nq).cnt.look hU
            rw [List.take_of_length_le (by rw [h.hlen]; exact Nat.le_refl _)] at this
            exact this
          have HI' : Hid (∀ q', Inp (wr.drewN q') (some ⟨b, off, none⟩) len L) := fun q' => (h.below hb1).drewN q'
          generalize el L k = x at *
          go_wp2
          go_quiet ((go_at_call 11; exact Calls.quiet_of_same (occ_any _ _ _ _ L _ (HI'.out _) hl)))
          go_wp2
          go_roundw
          case rel => exact ⟨k + 1, by omega, by go_num, below_drewN' hb1 _, hS.drewN _⟩
          case measure => simp [intOf]; omega
        · have h2 := h.below hb1
          have hln := fun ty => hS.cnt.len ty
          rw [HB.out] at hln
          rcases hS.owns.shape with ⟨_, hz⟩ | ⟨g, cp, rfl, _, _, _⟩
          · exfalso
            have hmem : el L 0 ∈ L.take len := by
              have hL := h.hlen
              rw [List.take_of_length_le (by omega)]
              simp [el, List.getD_eq_getElem?_getD, List.getElem?_eq_getElem (show 0 < L.length by omega)]
            have := (hM (el L 0)).2 hmem
            rw [hz] at this
            simp at this
          rw [HB.out] at h1
          go_wp2_with fail
          refine (distinct_any wr _ len cap L h2 hl).mono ?_
          rintro e w2 ⟨rfl, rfl⟩
          go_wp2
          go_ret
          exact ⟨rfl, hb1⟩
  · have hl' : (1024 : Int) < (len : Int) := by omega
    go_enter Yba.func4, Yba.ntmps4
    go_wp2
    go_ret
    exact ⟨rfl, Below.refl _ _⟩
end Go.Proofs.Ybulkagkq
