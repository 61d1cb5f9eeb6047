import Derived.Test.YbulkaghkPoint
namespace Go.Proofs.Ybulkaghk
open Go.RowKit

/-- the tree and the items, as the calls below find them -/
structure Tree (w : World) (tb pb ib d sz m : Nat) (P : Nat → Int) (I : Nat → Nat) : Prop where
  dims : w.cell? ⟨tb, 0, none⟩ = some (.int .i64 d)
  pts : w.cell? ⟨tb, 5, none⟩ = some (.slice (some ⟨pb, 0, none⟩) sz sz)
  row : ∀ i, i < sz → w.cell? ⟨pb, i, none⟩ = some (.int .i64 (P i))
  its : ∀ j, j < m → w.cell? ⟨ib, j, none⟩ = some (.int .i64 (I j))
  inb : ∀ j, j < m → (I j + 1) * d ≤ sz

theorem Tree.drewN {w : World} {tb pb ib d sz m : Nat} {P : Nat → Int} {I : Nat → Nat} (h : Tree w tb pb ib d sz m P I) (q : Nat) : Tree (w.drewN q) tb pb ib d sz m P I := ⟨h.dims, h.pts, h.row, h.its, h.inb⟩

def Differs (d m : Nat) (P : Nat → Int) (I : Nat → Nat) (lo hi : Nat) : Prop :=
  ∃ j r, 1 ≤ j ∧ j < m ∧ lo ≤ r ∧ r < hi ∧ P (I j * d + r) ≠ P (I 0 * d + r)

theorem below_drewN' {B : Nat} {a w : World} (h : Below B a w) (q : Nat) : Below B a (w.drewN q) := ⟨h.os, h.tape, h.output, h.size, h.block⟩

set_option maxRecDepth 100000 in
set_option maxHeartbeats 800000 in
theorem differ_some (w : World) (tb pb ib d sz m cm lo hi : Nat) (P : Nat → Int) (I : Nat → Nat) (ht : Tree w tb pb ib d sz m P I) (hd : 1 ≤ d) (hsz : sz ≤ 2000) (hm : 1 < m) (hm2 : m ≤ 2000) (hcm : m ≤ cm) (hlo : lo < hi) (hhi : hi ≤ d) (hd6 : d ≤ 6) :
    Calls Yba.prog 10 #[.pointer (some ⟨tb, 0, none⟩), .slice (some ⟨ib, 0, none⟩) m cm, .int .i64 lo, .int .i64 hi] w fun e w' => ∃ bb, e = .returned (.bool bb) ∧ (bb = true ↔ Differs d m P I lo hi) ∧ ∃ q, w' = w.drewN q := by
  have hit0 := ht.its 0 (by omega)
  have hin0 := ht.inb 0 (by omega)
  have hpos : 0 < (m : Int) := by omega
  have hhl : hi - lo ≤ 6 := by omega
  have hexp : ∀ i, (i + 1) * d = i * d + d := fun i => by rw [Nat.add_mul, Nat.one_mul]
  have hs1 : ∀ i W, (i + 1) * d ≤ sz → (Instr.slice 24 (.slice (some ⟨pb, i * d, none⟩) d (sz - i * d)) (some (.int .i64 lo)) (some (.int .i64 hi)) none).run Yba.prog W = .ok (.slice (some ⟨pb, i * d + lo, none⟩) (hi - lo) (sz - i * d - lo)) W := fun i W h =>
    sl24 W pb (i * d) d (sz - i * d) lo hi lo hi rfl rfl (by omega) (by have := hexp i; omega) (by have := hexp i; omega)
  have hs10 := fun W => hs1 (I 0) W hin0
  have hs2 : ∀ W, (Instr.slice 30 (.slice (some ⟨ib, 0, none⟩) m cm) (some (.int .i64 1)) none none).run Yba.prog W = .ok (.slice (some ⟨ib, 1, none⟩) (m - 1) (cm - 1)) W := fun W => by
    rw [sl30g W _ m cm 1 1 rfl (by omega), if_neg (by omega)]
    simp [addr_add]
  have HS : Hid (∀ i W, (i + 1) * d ≤ sz → (Instr.slice 24 (.slice (some ⟨pb, i * d, none⟩) d (sz - i * d)) (some (.int .i64 lo)) (some (.int .i64 hi)) none).run Yba.prog W = .ok (.slice (some ⟨pb, i * d + lo, none⟩) (hi - lo) (sz - i * d - lo)) W) := hs1
  have HE : Hid (∀ i, (i + 1) * d = i * d + d) := hexp
  clear hs1 hexp
  go_enter Yba.func10, Yba.ntmps10
  go_wp2_with fail
  refine (point_any w tb pb d sz (I 0) ht.dims ht.pts hin0 hsz hd).mono ?_
  rintro e w1 ⟨rfl, q, rfl⟩
  go_wp2
  clear hs10 hs2
  go_loopw [25] (fun k wr => ∃ j : Nat, j ≤ m - 1 ∧ k = .int .i64 j ∧ (∃ q, wr = w.drewN q) ∧ Hid (∀ j' r, 1 ≤ j' → j' ≤ j → lo ≤ r → r < hi → P (I j' * d + r) = P (I 0 * d + r))) (fun k _ => m - 1 - (intOf k).toNat)
  case atStart => exact ⟨0, Nat.zero_le _, rfl, ⟨_, rfl⟩, fun j' r h1 h2 => by omega⟩
  case round =>
    obtain ⟨j, hj, rfl, ⟨q1, rfl⟩, hsame⟩ := hrel
    by_cases hlt : j < m - 1
    · obtain ⟨ij, hij⟩ : ∃ ij, ij = I (j + 1) := ⟨_, rfl⟩
      have hitj : w.cell? ⟨ib, 1 + j, none⟩ = some (.int .i64 ij) := by
        rw [hij, Nat.add_comm 1 j]; exact ht.its (j + 1) (by omega)
      have hinj : (ij + 1) * d ≤ sz := by rw [hij]; exact ht.inb (j + 1) (by omega)
      have HI : Hid (ij = I (j + 1)) := hij
      clear hij
      have hs1j := fun W => HS.out ij W hinj
      go_wp2_with fail
      refine (point_any (w.drewN q1) tb pb d sz ij (ht.drewN q1).dims (ht.drewN q1).pts hinj hsz hd).mono ?_
      rintro e w1 ⟨rfl, q2, rfl⟩
      go_wp2
      clear hs1j hitj
      go_loopw [36] (fun t wr => ∃ r : Nat, r ≤ hi - lo ∧ t = .int .i64 r ∧ (∃ q, wr = w.drewN q) ∧ Hid (∀ r', lo ≤ r' → r' < lo + r → P (ij * d + r') = P (I 0 * d + r'))) (fun t _ => hi - lo - (intOf t).toNat)
      case atStart => exact ⟨0, Nat.zero_le _, rfl, ⟨_, rfl⟩, fun r' h1 h2 => by omega⟩
      case round =>
        obtain ⟨r, hr, rfl, ⟨q3, rfl⟩, hin⟩ := hrel
        by_cases hrl : r < hi - lo
        · have e1 := HE.out ij
          have e0 := HE.out (I 0)
          have hp1 : w.cell? ⟨pb, ij * d + lo + r, none⟩ = some (.int .i64 (P (ij * d + (lo + r)))) := by
            rw [Nat.add_assoc]; exact ht.row _ (by omega)
          have hp0 : w.cell? ⟨pb, I 0 * d + lo + r, none⟩ = some (.int .i64 (P (I 0 * d + (lo + r)))) := by
            rw [Nat.add_assoc]; exact ht.row _ (by omega)
          clear e1 e0
          by_cases hq : P (ij * d + (lo + r)) = P (I 0 * d + (lo + r))
          · have hqb : (P (ij * d + (lo + r)) == P (I 0 * d + (lo + r))) = true := beq_iff_eq.2 hq
            have HQ : Hid (P (ij * d + (lo + r)) = P (I 0 * d + (lo + r))) := hq
            clear hq
            go_wp2
            go_roundw
            case rel =>
              refine ⟨r + 1, by omega, by go_num, ⟨_, rfl⟩, fun r' h1 h2 => ?_⟩
              by_cases e : r' = lo + r
              · subst e; exact HQ.out
              · exact hin.out r' h1 (by omega)
            case measure => simp [intOf]; omega
          · have hqb : (P (ij * d + (lo + r)) == P (I 0 * d + (lo + r))) = false := beq_eq_false_iff_ne.2 hq
            have HQ : Hid (P (ij * d + (lo + r)) ≠ P (I 0 * d + (lo + r))) := hq
            clear hq
            go_wp2
            go_ret
            refine ⟨true, rfl, ⟨fun _ => ⟨j + 1, lo + r, by omega, by omega, by omega, by omega, ?_⟩, fun _ => rfl⟩, _, rfl⟩
            rw [← HI.out]; exact HQ.out
        · go_wp2
          go_roundw
          case rel =>
            refine ⟨j + 1, by omega, by go_num, ⟨_, rfl⟩, fun j' r' h1 h2 h3 h4 => ?_⟩
            by_cases e : j' = j + 1
            · subst e; rw [← HI.out]; exact hin.out r' h3 (by omega)
            · exact hsame.out j' r' h1 (by omega) h3 h4
          case measure => simp [intOf]; omega
    · go_wp2
      go_ret
      refine ⟨false, rfl, ⟨fun h => absurd h (by decide), fun ⟨j', r', h1, h2, h3, h4, h5⟩ => absurd (hsame.out j' r' h1 (by omega) h3 h4) h5⟩, _, rfl⟩

set_option maxRecDepth 100000 in
set_option maxHeartbeats 800000 in
theorem differ_none (w : World) (tb pb ib d sz m cm lo hi : Nat) (P : Nat → Int) (I : Nat → Nat) (ht : Tree w tb pb ib d sz m P I) (hd : 1 ≤ d) (hsz : sz ≤ 2000) (hm : 1 ≤ m) (hm2 : m ≤ 2000) (hcm : m ≤ cm) (hlo : lo ≤ hi) (hhi : hi ≤ d) (hd6 : d ≤ 6) (hor : m = 1 ∨ lo = hi) :
    Calls Yba.prog 10 #[.pointer (some ⟨tb, 0, none⟩), .slice (some ⟨ib, 0, none⟩) m cm, .int .i64 lo, .int .i64 hi] w fun e w' => e = .returned (.bool false) ∧ ∃ q, w' = w.drewN q := by
  have hit0 := ht.its 0 (by omega)
  have hin0 := ht.inb 0 (by omega)
  have hpos : 0 < (m : Int) := by omega
  have hexp : ∀ i, (i + 1) * d = i * d + d := fun i => by rw [Nat.add_mul, Nat.one_mul]
  have hs1 : Hid (∀ i, (i + 1) * d ≤ sz → ∃ A c, ∀ W, (Instr.slice 24 (.slice (some ⟨pb, i * d, none⟩) d (sz - i * d)) (some (.int .i64 lo)) (some (.int .i64 hi)) none).run Yba.prog W = .ok (.slice A (hi - lo) c) W) := fun i h =>
    ⟨_, _, fun W => sl24g W _ d (sz - i * d) lo hi lo hi rfl rfl (by omega) (by have := hexp i; omega)⟩
  obtain ⟨A0, c0, hs10⟩ := hs1.out (I 0) hin0
  obtain ⟨A2, hs2, hA2⟩ : ∃ A, (∀ W, (Instr.slice 30 (.slice (some ⟨ib, 0, none⟩) m cm) (some (.int .i64 1)) none none).run Yba.prog W = .ok (.slice A (m - 1) (cm - 1)) W) ∧ Hid (1 < m → A = some ⟨ib, 1, none⟩) :=
    ⟨_, fun W => sl30g W _ m cm 1 1 rfl (by omega), fun h => by rw [if_neg (by omega)]; simp [addr_add]⟩
  clear hexp
  have HO : Hid (m = 1 ∨ lo = hi) := hor
  clear hor
  go_enter Yba.func10, Yba.ntmps10
  go_wp2_with fail
  refine (point_any w tb pb d sz (I 0) ht.dims ht.pts hin0 hsz hd).mono ?_
  rintro e w1 ⟨rfl, q, rfl⟩
  go_wp2
  clear hs10 hs2
  go_loopw [25] (fun k wr => ∃ j : Nat, j ≤ m - 1 ∧ k = .int .i64 j ∧ (∃ q, wr = w.drewN q) ∧ Hid (0 ≤ j)) (fun k _ => m - 1 - (intOf k).toNat)
  case atStart => exact ⟨0, Nat.zero_le _, rfl, ⟨_, rfl⟩, Nat.zero_le _⟩
  case round =>
    obtain ⟨j, hj, rfl, ⟨q1, rfl⟩, _⟩ := hrel
    by_cases hlt : j < m - 1
    · obtain rfl := hA2.out (by omega)
      have hz : hi - lo = 0 := by have := HO.out; omega
      obtain ⟨ij, hij⟩ : ∃ ij, ij = I (j + 1) := ⟨_, rfl⟩
      have hitj : w.cell? ⟨ib, 1 + j, none⟩ = some (.int .i64 ij) := by
        rw [hij, Nat.add_comm 1 j]; exact ht.its (j + 1) (by omega)
      have hinj : (ij + 1) * d ≤ sz := by rw [hij]; exact ht.inb (j + 1) (by omega)
      clear hij
      obtain ⟨A1, c1, hs1j⟩ := hs1.out ij hinj
      rw [hz] at hs1j
      go_wp2_with fail
      refine (point_any (w.drewN q1) tb pb d sz ij (ht.drewN q1).dims (ht.drewN q1).pts hinj hsz hd).mono ?_
      rintro e w1 ⟨rfl, q2, rfl⟩
      go_wp2
      clear hs1j hitj
      go_loopw [36] (fun t wr => ∃ r : Nat, r ≤ 0 ∧ t = .int .i64 r ∧ (∃ q, wr = w.drewN q)) (fun t _ => 0 - (intOf t).toNat)
      case atStart => exact ⟨0, Nat.le_refl _, rfl, ⟨_, rfl⟩⟩
      case round =>
        obtain ⟨r, hr, rfl, ⟨q3, rfl⟩⟩ := hrel
        have hr0 : ¬ (r : Int) < 0 := by omega
        go_wp2
        exact ⟨⟨_, _, _, _, _, ⟨j + 1, by omega, rfl, ⟨_, rfl⟩, trivial⟩, rfl, rfl, rfl, rfl, by go_num⟩, by simp [intOf]; omega⟩
    · go_wp2
      go_ret
      exact ⟨rfl, _, rfl⟩

theorem differ_any (w : World) (tb pb ib d sz m cm lo hi : Nat) (P : Nat → Int) (I : Nat → Nat) (ht : Tree w tb pb ib d sz m P I) (hd : 1 ≤ d) (hsz : sz ≤ 2000) (hm : 1 ≤ m) (hm2 : m ≤ 2000) (hcm : m ≤ cm) (hlo : lo ≤ hi) (hhi : hi ≤ d) (hd6 : d ≤ 6) :
    Calls Yba.prog 10 #[.pointer (some ⟨tb, 0, none⟩), .slice (some ⟨ib, 0, none⟩) m cm, .int .i64 lo, .int .i64 hi] w fun e w' => ∃ bb, e = .returned (.bool bb) ∧ (bb = true ↔ Differs d m P I lo hi) ∧ ∃ q, w' = w.drewN q := by
  by_cases h : 1 < m ∧ lo < hi
  · exact differ_some w tb pb ib d sz m cm lo hi P I ht hd hsz h.1 hm2 hcm h.2 hhi hd6
  · refine (differ_none w tb pb ib d sz m cm lo hi P I ht hd hsz hm hm2 hcm hlo hhi hd6 (by omega)).mono ?_
    rintro e w' ⟨rfl, q, rfl⟩
    exact ⟨false, rfl, ⟨fun h => absurd h (by decide), fun ⟨j', r', h1, h2, h3, h4, h5⟩ => by omega⟩, q, rfl⟩
end Go.Proofs.Ybulkaghk
