import Derived.Test.YbulkagkqExpire
import Derived.Test.YbulkagkqCountsWalk
namespace Go.Proofs.Ybulkagkq
open Go.RowKit Hp Go.Maps

def cw (L : List Int) (now : Int) (k : Nat) : Nat := (L.take k).countP (fun y => decide (y ≤ now))
theorem cw_le (L : List Int) (now : Int) (k : Nat) : cw L now k ≤ k := Nat.le_trans List.countP_le_length (by simp; omega)
theorem cw_succ (L : List Int) (now : Int) (k : Nat) (hk : k < L.length) : cw L now (k + 1) = cw L now k + if el L k ≤ now then 1 else 0 := by
  unfold cw
  rw [take_succ_el L k hk, List.countP_append, List.countP_singleton]
  by_cases e : el L k ≤ now <;> simp [e]
theorem cw_all (L : List Int) (now : Int) (n : Nat) (hn : L.length = n) : L.length - (L.filter (fun z => decide (now < z))).length = cw L now n := by
  unfold cw
  rw [List.take_of_length_le (by omega), ← List.countP_eq_length_filter]
  have := List.length_eq_countP_add_countP (fun z : Int => decide (now < z)) (l := L)
  have e : L.countP (fun a => decide ¬decide (now < a) = true) = L.countP (fun y => decide (y ≤ now)) := by
    refine List.countP_congr fun y _ => ?_
    simp
  omega

theorem filter_count_gt (L : List Int) (now x : Int) (h : now < x) : (L.filter (fun z => decide (now < z))).count x = L.count x := List.count_filter (by simpa using h)
theorem filter_count_le (L : List Int) (now x : Int) (h : ¬ now < x) : (L.filter (fun z => decide (now < z))).count x = 0 := by
  rw [List.count_eq_zero]
  intro hm
  have := (List.mem_filter.1 hm).2
  simp at this
  exact h this

theorem Live.drewN {w : World} {xb cb : Nat} {v : Value} {R zs : List Int} (h : Live w xb cb v R zs) (q : Nat) : Live (w.drewN q) xb cb v R zs := ⟨h.st.drewN q, h.heap, h.nodup, h.mem⟩

set_option maxRecDepth 100000 in
set_option maxHeartbeats 400000 in
theorem expire_walk (a : Option Addr) (len cap : Nat) (L : List Int) (now : Int) (w : World) (hmx : len ≤ maxLen) (h : Inp w a len L) :
    Calls Yba.prog 6 #[.slice a len cap, .int .u64 now] w fun e w' => e = .returned (.bool true) ∧ Below w.heap.size w w' := by
  unfold maxLen at hmx
  by_cases hl : len ≤ 1024
  · have hl' : ¬ (1024 : Int) < (len : Int) := by omega
    go_enter Yba.func6, Yba.ntmps6
    go_wp2_with fail
    refine (build_any w a len cap L h hl).mono ?_
    rintro e w1 ⟨rfl, hb1, hB⟩
    rcases hB with ⟨rfl, b0, b1, bf, bx⟩ | ⟨hk0, cb, v, zs, hS, hH, hN, hM, hZ⟩
    · have hln := len41_nil
      go_wp2_with fail
      refine (expire_nil w1 w.heap.size now b1).mono ?_
      rintro e w2 ⟨rfl, rfl⟩
      go_wp2
      go_loop [7, 24] (fun n i => n = .int .u64 0 ∧ i = .int .i64 0) (fun _ _ => 0)
      case atStart => exact ⟨rfl, rfl⟩
      case round =>
        obtain ⟨rfl, rfl⟩ := hrel
        go_wp2
        go_loop [39] (fun i => i = .int .i64 0) (fun _ => 0)
        case atStart => rfl
        case round =>
          subst hrel
          go_wp2
          go_quiet (fail)
          go_wp2
          go_ret
          exact ⟨rfl, below_drewN' hb1 _⟩
    · obtain ⟨b, off, rfl, hb, hc⟩ := h.at' hk0
      have hLt : L.take len = L := List.take_of_length_le (by rw [h.hlen]; exact Nat.le_refl _)
      have hlive : Live w1 w.heap.size cb v L zs := ⟨by rw [hLt] at hS; exact hS, hH, hN, by rw [hLt] at hM; exact hM⟩
      clear hS hH hN hM
      have hzl : zs.length ≤ 1024 := by have := dcTo_le L len; omega
      clear hZ
      go_wp2_with fail
      refine (expire_some w1 w.heap.size cb v L zs now hlive h.wf (by rw [h.hlen]; exact hl) hzl).mono ?_
      rintro e w2 ⟨rfl, ⟨v', zs', hlv⟩, hb2⟩
      rw [cw_all L now len h.hlen]
      have hbb := hb1.trans hb2
      clear hlive hb1 hb2
      go_wp2
      go_loop [7, 24] (fun n i => ∃ k : Nat, k ≤ len ∧ i = .int .i64 k ∧ n = .int .u64 (cw L now k)) (fun _ i => len - (intOf i).toNat)
      case atStart => exact ⟨0, Nat.zero_le _, rfl, rfl⟩
      case round =>
        obtain ⟨k, hk, rfl, rfl⟩ := hrel
        by_cases hlt : k < len
        · have hck : w2.cell? ⟨b, off + k, none⟩ = some (.int .u64 (el L k)) := (hbb.cell (p := ⟨b, off + k, none⟩) hb).trans (hc k hlt)
          have HS : Hid (cw L now (k + 1) = cw L now k + if el L k ≤ now then 1 else 0) := cw_succ L now k (by rw [h.hlen]; exact hlt)
          have hcl := cw_le L now k
          generalize cw L now k = c at *
          generalize el L k = x at *
          by_cases hx : x ≤ now
          · have HX : Hid (x ≤ now) := hx
            go_wp2
            go_round
            case rel => exact ⟨k + 1, by omega, by go_num, by rw [HS.out, if_pos HX.out]; go_num⟩
            case measure => simp [intOf]; omega
          · have hxb : decide (x ≤ now) = false := by simpa using hx
            have HX : Hid (¬ x ≤ now) := hx
            clear hx
            go_wp2
            go_round
            case rel => exact ⟨k + 1, by omega, by go_num, by rw [HS.out, if_neg HX.out]; go_num⟩
            case measure => simp [intOf]; omega
        · obtain rfl : k = len := by omega
          go_wp2
          obtain ⟨wz, rfl⟩ : ∃ wz, wz = w2 := ⟨_, rfl⟩
          go_loopw [39] (fun i wr => ∃ j : Nat, j ≤ k ∧ i = .int .i64 j ∧ Below w.heap.size w wr ∧ Live wr w.heap.size cb v' (L.filter (fun z => decide (now < z))) zs') (fun i _ => k - (intOf i).toNat)
          case atStart => exact ⟨0, Nat.zero_le _, rfl, hbb, hlv⟩
          case round =>
            clear hbb hlv
            obtain ⟨j, hj, rfl, hbb, hlv⟩ := hrel
            have c0 := hlv.st.c0
            have c1 := hlv.st.c1
            by_cases hlt2 : j < k
            · have hck : wr.cell? ⟨b, off + j, none⟩ = some (.int .u64 (el L j)) := (hbb.cell (p := ⟨b, off + j, none⟩) hb).trans (hc j hlt2)
              have hU := h.uel hlt2
              have hlo := hlv.st.cnt.look_ok hU
              by_cases hx : el L j ≤ now
              · rw [filter_count_le L now _ (by omega)] at hlo
                generalize el L j = x at *
                go_wp2
                go_roundw
                case rel => exact ⟨j + 1, by omega, by go_num, hbb, hlv⟩
                case measure => simp [intOf]; omega
              · have hxb : decide (el L j ≤ now) = false := by simpa using hx
                have hlook : ∀ nq, (Instr.lookup 41 (.map (some cb)) (.int .u64 (el L j)) false).run Yba.prog (wr.drewN nq) = .ok (.int .u64 (L.count (el L j))) (wr.drewN nq) := fun nq => by
                  have := (hlv.drewN nq).st.cnt.look hU
                  rw [filter_count_gt L now _ (by omega)] at this
                  exact this
                have HI' : Hid (∀ q', Inp (wr.drewN q') (some ⟨b, off, none⟩) k L) := fun q' => (h.below hbb).drewN q'
                generalize el L j = x at *
                clear hx
                go_wp2
                go_quiet ((go_at_call 11; exact Calls.quiet_of_same (occ_any _ _ _ _ L _ (HI'.out _) hl)))
                go_wp2
                go_roundw
                case rel => exact ⟨j + 1, by omega, by go_num, below_drewN' hbb _, hlv.drewN _⟩
                case measure => simp [intOf]; omega
            · have hln : ∀ nq ty, (Builtin.len_ #[41] ty #[.map (some cb)]).run Yba.prog (wr.drewN nq) = .ok (.int .i64 zs'.length) (wr.drewN nq) := fun nq ty => (hlv.drewN nq).st.cnt.len ty
              obtain ⟨aa, cc, rfl⟩ : ∃ aa cc, v' = .slice aa zs'.length cc := by
                rcases hlv.st.owns.shape with ⟨h1, h2⟩ | ⟨g, cp, h1, _⟩
                · exact ⟨none, 0, by rw [h1, h2]; rfl⟩
                · exact ⟨_, _, h1⟩
              go_wp2
              go_quiet (fail)
              go_wp2
              go_ret
              exact ⟨rfl, below_drewN' hbb _⟩
  · have hl' : (1024 : Int) < (len : Int) := by omega
    go_enter Yba.func6, Yba.ntmps6
    go_wp2
    go_ret
    exact ⟨rfl, Below.refl _ _⟩
end Go.Proofs.Ybulkagkq
