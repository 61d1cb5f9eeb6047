import Derived.Test.YbulkaghkBuild
namespace Go.Proofs.Ybulkaghk
open Go.RowKit

theorem IsRow.len_le {k : IntKind} {w : World} {a : Option Addr} {len cap : Nat} {zs : List Int} (h : IsRow k w a len cap zs) : len ≤ maxLen := by
  rcases h with ⟨_, h2, _⟩ | ⟨x, _, h1, h2, _⟩
  · rw [h2]; exact Nat.zero_le _
  · exact Nat.le_trans h1 h2

theorem u8_bounds {a : Int} (h : (Lit.int .u8 a).wf = true) : 0 ≤ a ∧ a ≤ 255 := by
  simp only [Lit.wf, Bool.and_eq_true, decide_eq_true_eq] at h
  have h1 : IntKind.u8.min = 0 := rfl
  have h2 : IntKind.u8.max = 255 := rfl
  omega

set_option maxRecDepth 100000 in
set_option maxHeartbeats 1000000 in
theorem scan_walk (a0 : Int) (a1 : Option Addr) (len1 cap1 : Nat) (z1 : List Int) (a2 : Option Addr) (len2 cap2 : Nat) (z2 : List Int) (a3 : Int) (a4 : Int) (w : World) (w0 : (Lit.int .u8 a0).wf = true) (w1 : IsRow .i64 w a1 len1 cap1 z1) (w2 : IsRow .u8 w a2 len2 cap2 z2) (w3 : (Lit.int .u8 a3).wf = true) (w4 : (Lit.int .u8 a4).wf = true)
    (m1 : len1 ≤ maxLen) (m2 : len2 ≤ maxLen) :
    Calls Yba.prog 4 #[.int .u8 a0, .slice a1 len1 cap1, .slice a2 len2 cap2, .int .u8 a3, .int .u8 a4] w fun e w' => e = .returned (.bool true) ∧ Below w.heap.size w w' := by
  unfold maxLen at m1 m2
  by_cases hl1 : len1 ≤ 1024
  · have hl1' : decide ((1024 : Int) < (len1 : Int)) = false := by simp; omega
    by_cases hl2 : len2 ≤ 1024
    · have hl2' : decide ((1024 : Int) < (len2 : Int)) = false := by simp; omega
      have b0 := u8_bounds w0
      have b3 := u8_bounds w3
      have b4 := u8_bounds w4
      obtain ⟨d, hd⟩ : ∃ d : Nat, a0 % 6 + 1 = (d : Int) := ⟨(a0 % 6 + 1).toNat, by omega⟩
      obtain ⟨lo, hlo⟩ : ∃ lo : Nat, a3 % ((d : Int) + 1) = (lo : Int) := ⟨(a3 % ((d : Int) + 1)).toNat, by rw [Int.toNat_of_nonneg (Int.emod_nonneg _ (by omega))]⟩
      have hlod : lo ≤ d := by have := Int.emod_lt_of_pos a3 (show (0 : Int) < (d : Int) + 1 by omega); omega
      obtain ⟨r, hr⟩ : ∃ r : Nat, a4 % ((d : Int) + 1 - lo) = (r : Int) := ⟨(a4 % ((d : Int) + 1 - lo)).toNat, by rw [Int.toNat_of_nonneg (Int.emod_nonneg _ (by omega))]⟩
      have hrd : r ≤ d - lo := by have := Int.emod_lt_of_pos a4 (show (0 : Int) < (d : Int) + 1 - lo by omega); omega
      obtain ⟨hi, hhi⟩ : ∃ hi : Nat, (lo : Int) + (r : Int) = (hi : Int) := ⟨lo + r, by omega⟩
      have hd1 : 1 ≤ d := by omega
      have hd6 : d ≤ 6 := by omega
      have hlh : lo ≤ hi := by omega
      have hhd : hi ≤ d := by omega
      obtain ⟨b00, b01⟩ := b0
      obtain ⟨b30, b31⟩ := b3
      obtain ⟨b40, b41⟩ := b4
      clear hrd
      go_enter Yba.func4, Yba.ntmps4
      go_wp2_with fail
      refine (build_any w d hd1 hd6 a1 len1 cap1 z1 a2 len2 cap2 z2 hl1 hl2 w1 w2).mono ?_
      rintro e wb ⟨tb, pb, ib, sz, m, cm, P, I, rfl, hbel, hT, hszl, hm1, hm2, hcm⟩
      go_wp2_with fail
      clear hd hlo hr hhi
      refine (differ_any wb tb pb ib d sz m cm lo hi P I hT hd1 hszl hm1 hm2 hcm hlh hhd hd6).mono ?_
      rintro e wd ⟨bb, rfl, hbb, q, rfl⟩
      have HB : Hid (bb = true ↔ Differs d m P I lo hi) := hbb
      clear hbb
      have hp5 := hT.pts
      go_wp2
      clear hp5
      go_loopw [18] (fun i wr => ∃ j : Nat, 1 ≤ j ∧ j ≤ m ∧ i = .int .i64 j ∧ (∃ q, wr = wb.drewN q) ∧ Hid (∀ j' r, 1 ≤ j' → j' < j → lo ≤ r → r < hi → P (I j' * d + r) = P (I 0 * d + r))) (fun i _ => m - (intOf i).toNat)
      case atStart => exact ⟨1, Nat.le_refl _, hm1, rfl, ⟨_, rfl⟩, fun j' r h1 h2 => by omega⟩
      case round =>
        obtain ⟨j, hj1, hjm, rfl, ⟨q1, rfl⟩, hsame⟩ := hrel
        by_cases hlt : j < m
        · go_wp2
          go_loopw [19] (fun i wr => ∃ r : Nat, lo ≤ r ∧ r ≤ hi ∧ i = .int .i64 r ∧ (∃ q, wr = wb.drewN q) ∧ Hid (∀ r', lo ≤ r' → r' < r → P (I j * d + r') = P (I 0 * d + r'))) (fun i _ => hi - (intOf i).toNat)
          case atStart => exact ⟨lo, Nat.le_refl _, hlh, rfl, ⟨_, rfl⟩, fun r' h1 h2 => by omega⟩
          case round =>
            obtain ⟨x, hx1, hx2, rfl, ⟨q2, rfl⟩, hin⟩ := hrel
            by_cases hxl : x < hi
            · have i1 := hT.its j hlt
              have i0 := hT.its 0 (by omega)
              have n1 := hT.inb j hlt
              have n0 := hT.inb 0 (by omega)
              rw [Nat.add_mul, Nat.one_mul] at n1 n0
              obtain ⟨e1, he1⟩ : ∃ e1 : Nat, (I j : Int) * (d : Int) = (e1 : Int) := ⟨I j * d, by simp⟩
              obtain ⟨e0, he0⟩ : ∃ e0 : Nat, (I 0 : Int) * (d : Int) = (e0 : Int) := ⟨I 0 * d, by simp⟩
              have f1 : e1 = I j * d := by have : ((I j * d : Nat) : Int) = (e1 : Int) := by rw [← he1]; simp
                                           omega
              have f0 : e0 = I 0 * d := by have : ((I 0 * d : Nat) : Int) = (e0 : Int) := by rw [← he0]; simp
                                           omega
              have p1 : wb.cell? ⟨pb, e1 + x, none⟩ = some (.int .i64 (P (e1 + x))) := hT.row _ (by omega)
              have p0 : wb.cell? ⟨pb, e0 + x, none⟩ = some (.int .i64 (P (e0 + x))) := hT.row _ (by omega)
              have g1 : e1 + x < sz := by omega
              have g0 : e0 + x < sz := by omega
              have F1 : Hid (e1 = I j * d) := f1
              have F0 : Hid (e0 = I 0 * d) := f0
              have N1 : I j ≤ 2000 := by have : I j * 1 ≤ I j * d := Nat.mul_le_mul_left _ hd1
                                         omega
              have N0 : I 0 ≤ 2000 := by have : I 0 * 1 ≤ I 0 * d := Nat.mul_le_mul_left _ hd1
                                         omega
              clear f1 f0 n1 n0
              have hmp : 0 < (m : Int) := by omega
              by_cases hq : P (e1 + x) = P (e0 + x)
              · have hqb : (P (e1 + x) == P (e0 + x)) = true := beq_iff_eq.2 hq
                have HQ : Hid (P (e1 + x) = P (e0 + x)) := hq
                clear hq
                go_wp2
                go_quiet (fail)
                go_wp2
                go_roundw
                case rel =>
                  refine ⟨x + 1, by omega, by omega, by go_num, ⟨_, rfl⟩, fun r' h1 h2 => ?_⟩
                  by_cases e : r' = x
                  · subst e; rw [← F1.out, ← F0.out]; exact HQ.out
                  · exact hin.out r' h1 (by omega)
                case measure => simp [intOf]; omega
              · have hqb : (P (e1 + x) == P (e0 + x)) = false := beq_eq_false_iff_ne.2 hq
                have hbt : bb = true := HB.out.2 ⟨j, x, hj1, hlt, hx1, hxl, by rw [← F1.out, ← F0.out]; exact hq⟩
                subst hbt
                clear hq
                go_wp2
                go_quiet (fail)
                go_wp2
                go_ret
                exact ⟨rfl, below_drewN' (below_drewN' hbel _) _⟩
            · go_wp2
              go_roundw
              case rel =>
                refine ⟨j + 1, by omega, by omega, by go_num, ⟨_, rfl⟩, fun j' r' h1 h2 h3 h4 => ?_⟩
                by_cases e : j' = j
                · subst e; exact hin.out r' h3 (by omega)
                · exact hsame.out j' r' h1 (by omega) h3 h4
              case measure => simp [intOf]; omega
        · have hbf : bb = false := by
            cases hb : bb
            · rfl
            · obtain ⟨j', r', h1, h2, h3, h4, h5⟩ := HB.out.1 hb
              exact absurd (hsame.out j' r' h1 (by omega) h3 h4) h5
          subst hbf
          go_wp2
          go_ret
          exact ⟨rfl, below_drewN' hbel _⟩
    · have hl2' : decide ((1024 : Int) < (len2 : Int)) = true := by simp; omega
      go_enter Yba.func4, Yba.ntmps4
      go_wp2
      go_ret
      exact ⟨rfl, Below.refl _ _⟩
  · have hl1' : decide ((1024 : Int) < (len1 : Int)) = true := by simp; omega
    go_enter Yba.func4, Yba.ntmps4
    go_wp2
    go_ret
    exact ⟨rfl, Below.refl _ _⟩
end Go.Proofs.Ybulkaghk
