import Derived.Test.YbulkagmgUnion
namespace Go.Proofs.Ybulkagmg
open Go.RowKit

theorem pop_or : ∀ (f a b : Nat), Lib.popAux f a ≤ Lib.popAux f (a ||| b)
  | 0, _, _ => Nat.le_refl _
  | f + 1, a, b => by
    have ih := pop_or f (a / 2) (b / 2)
    have e : (a ||| b) / 2 = a / 2 ||| b / 2 := Nat.or_div_two
    have m : a % 2 ≤ (a ||| b) % 2 := by
      by_cases h1 : a % 2 = 1
      · have := Nat.or_mod_two_eq_one.2 (Or.inl h1 : a % 2 = 1 ∨ b % 2 = 1)
        omega
      · omega
    simp only [Lib.popAux]
    rw [e]
    omega

theorem cnt_mono {r s : ByteArray} : ∀ k, (∀ i, i < k → Lib.onesCount (bt s i) ≤ Lib.onesCount (bt r i)) → cnt s k ≤ cnt r k
  | 0, _ => Nat.le_refl _
  | k + 1, h => by
    have := cnt_mono (r := r) (s := s) k (fun i hi => h i (by omega))
    have := h k (by omega)
    simp only [cnt]
    omega

theorem cnt_un_left (s t : ByteArray) : cnt s s.size ≤ cnt (un s t) s.size :=
  cnt_mono _ fun i hi => by rw [bt_un s t i hi]; exact pop_or _ _ _
theorem cnt_un_right (s t : ByteArray) : cnt t s.size ≤ cnt (un s t) s.size :=
  cnt_mono _ fun i hi => by rw [bt_un s t i hi, Nat.or_comm]; exact pop_or _ _ _

theorem head_str (a : ByteArray) (n : Nat) (h : n ≤ a.size) (w : World) : (Instr.slice 9 (.string a) none (some (.int .i64 (n : Int))) none).run Yba.prog w = .ok (.string (a.extract 0 n)) w := by
  rw [run_slice_string_to_if w 9 a .i64 (n : Int) Yba.underlying9, if_pos ⟨by omega, by omega⟩, Int.toNat_natCast]

/-- two calls, one behind the other -/
theorem below_next {a b c : World} (h : Below a.heap.size a b) (k : Below b.heap.size b c) : Below a.heap.size a c := h.trans (k.mono h.size)

set_option maxRecDepth 100000 in
theorem walk (a0 a1 : ByteArray) (w : World) :
    Calls Yba.prog 5 #[.string a0, .string a1] w fun e w' => e = .returned (.bool true) ∧ Below w.heap.size w w' := by
  by_cases h0 : 512 < a0.size
  · go_enter Yba.func5, Yba.ntmps5
    go_wp2
    go_ret
    exact ⟨rfl, Below.refl _ _⟩
  by_cases h1 : 512 < a1.size
  · go_enter Yba.func5, Yba.ntmps5
    go_wp2
    go_ret
    exact ⟨rfl, Below.refl _ _⟩
  obtain ⟨n, hn⟩ : ∃ n, n = min a0.size a1.size := ⟨_, rfl⟩
  have hmin : (if (a0.size : Int) < (a1.size : Int) then (a0.size : Int) else (a1.size : Int)) = (n : Int) := by split <;> omega
  have hs0 := head_str a0 n (by omega)
  have hs1 := head_str a1 n (by omega)
  have z0 : (a0.extract 0 n).size = n := by simp; omega
  have z1 : (a1.extract 0 n).size = n := by simp; omega
  have hn5 : n ≤ 512 := by omega
  have HN : Hid (n = min a0.size a1.size) := hn
  clear hn
  generalize a0.extract 0 n = s at hs0 z0
  generalize a1.extract 0 n = t at hs1 z1
  have zr : (un s t).size = n := (un_size s t).trans z0
  have hbit : ∀ i, i < n → bt (un s t) i = bt s i ||| bt t i := fun i hi => bt_un s t i (by omega)
  have hl := cnt_un_left s t
  have hr := cnt_un_right s t
  rw [z0] at hl hr
  have hlb := cnt_le (un s t) n
  have hun := union_any s t w (z1.trans z0.symm) (by omega)
  generalize un s t = r at zr hbit hl hr hlb hun
  go_enter Yba.func5, Yba.ntmps5
  go_wp2_with fail
  refine (min_any (a0.size : Int) (a1.size : Int) w).mono ?_
  rw [hmin]
  rintro e w' ⟨rfl, rfl⟩
  go_wp2_with fail
  refine hun.mono ?_
  rintro e w1 ⟨rfl, bel1⟩
  go_wp2_with fail
  go_loopw [9] (fun i wr => ∃ k : Nat, k ≤ 8 * n ∧ i = .int .i64 k ∧ Below w'.heap.size w' wr) (fun i _ => 8 * n - (intOf i).toNat)
  case atStart => exact ⟨0, Nat.zero_le _, rfl, bel1⟩
  case round =>
    obtain ⟨k, hk, rfl, bel⟩ := hrel
    by_cases hlt : k < 8 * n
    · have e := hbit (k / 8) (by omega)
      have hR := fun w => has_any r k w (by omega) (by omega)
      have hS := fun w => has_any s k w (by omega) (by omega)
      have hT := fun w => has_any t k w (by omega) (by omega)
      simp only [e, Nat.testBit_or] at hR
      generalize (bt s (k / 8)).testBit (k % 8) = xs at hR hS
      generalize (bt t (k / 8)).testBit (k % 8) = xt at hR hT
      cases xs
      · cases xt <;>
        · go_wp2_with fail
          refine (hR _).mono ?_
          rintro e w2 ⟨rfl, n2, rfl⟩
          go_wp2_with fail
          refine (hS _).mono ?_
          rintro e w3 ⟨rfl, n3, rfl⟩
          go_wp2_with fail
          refine (hT _).mono ?_
          rintro e w4 ⟨rfl, n4, rfl⟩
          go_wp2
          go_roundw
          case rel => exact ⟨k + 1, by omega, by go_num, below_drewN bel _⟩
          case measure => simp [intOf]; omega
      · go_wp2_with fail
        refine (hR _).mono ?_
        rintro e w2 ⟨rfl, n2, rfl⟩
        go_wp2_with fail
        refine (hS _).mono ?_
        rintro e w3 ⟨rfl, n3, rfl⟩
        go_wp2
        go_roundw
        case rel => exact ⟨k + 1, by omega, by go_num, below_drewN bel _⟩
        case measure => simp [intOf]; omega
    · go_wp2_with fail
      refine (incl_any r s wr (by omega) (by omega) (fun i hi j hj => by rw [hbit i (by omega), Nat.testBit_or, hj]; rfl)).mono ?_
      rintro e w2 ⟨rfl, bel2⟩
      go_wp2_with fail
      refine (incl_any r t w2 (by omega) (by omega) (fun i hi j hj => by rw [hbit i (by omega), Nat.testBit_or, hj]; simp)).mono ?_
      rintro e w3 ⟨rfl, bel3⟩
      have b2 := below_next bel bel2
      have b3 := below_next b2 bel3
      have hR := fun w => len_any r w (by omega)
      have hS := fun w => len_any s w (by omega)
      have hT := fun w => len_any t w (by omega)
      rw [zr] at hR
      rw [z0] at hS
      rw [z1] at hT
      generalize cnt r n = cr at hl hr hlb hR
      generalize cnt s n = cs at hl hS
      generalize cnt t n = ct at hr hT
      go_wp2_with fail
      refine (hR _).mono ?_
      rintro e w4 ⟨rfl, b4⟩
      go_wp2_with fail
      refine (hS _).mono ?_
      rintro e w5 ⟨rfl, b5⟩
      go_wp2_with fail
      refine (hR _).mono ?_
      rintro e w6 ⟨rfl, b6⟩
      go_wp2_with fail
      refine (hT _).mono ?_
      rintro e w7 ⟨rfl, b7⟩
      go_wp2
      go_ret
      refine ⟨?_, below_next (below_next (below_next (below_next b3 b4) b5) b6) b7⟩
      rfl
end Go.Proofs.Ybulkagmg
