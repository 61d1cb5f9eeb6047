import Derived.Test.YbulkaghkRows
import Derived.WalkKit
import Derived.ProofKit
import Derived.BigQuiet
import Derived.Deep.QuietTactic
namespace Go.Proofs.Ybulkaghk
open Go.RowKit

theorem Yba.cells25 : Yba.prog.cellsOf 25 = 1 := by kernel_rfl
theorem Yba.info3 : (Yba.prog.info? 3).map (fun i => (i.zero, i.size, i.bytes)) = some (some (.int .i64 0), 1, 8) := by kernel_rfl
theorem Yba.info25 : (Yba.prog.info? 25).map (fun i => (i.zero, i.size, i.bytes)) = some (some (.int .i64 0), 1, 8) := by kernel_rfl

theorem sl24g (w : World) (A : Option Addr) (len cap lo hi : Nat) (a b : Int) (ha : a = lo) (hb : b = hi) (h1 : lo ≤ hi) (h2 : hi ≤ cap) :
    (Instr.slice 24 (.slice A len cap) (some (.int .i64 a)) (some (.int .i64 b)) none).run Yba.prog w = .ok (.slice (if cap = lo then A else A.map (·.add lo)) (hi - lo) (cap - lo)) w := by
  subst ha; subst hb
  obtain ⟨i, hi', hz0, hz1, hz2⟩ := info_parts Yba.info25
  simp [Instr.slice, run_underlying Yba.underlying24, Instr.sliceBounds, Instr.sliceBound, asIntOf, sizeOf, typeInfo, hi', hz1, h1, h2]

theorem addr_add (b o k : Nat) : (⟨b, o, none⟩ : Addr).add k = ⟨b, o + k, none⟩ := by
  simp [Addr.add]

theorem sl24 (w : World) (pb o len cap lo hi : Nat) (a b : Int) (ha : a = lo) (hb : b = hi) (h1 : lo ≤ hi) (h2 : hi ≤ cap) (h3 : lo < cap) :
    (Instr.slice 24 (.slice (some ⟨pb, o, none⟩) len cap) (some (.int .i64 a)) (some (.int .i64 b)) none).run Yba.prog w = .ok (.slice (some ⟨pb, o + lo, none⟩) (hi - lo) (cap - lo)) w := by
  rw [sl24g w _ len cap lo hi a b ha hb h1 h2, if_neg (by omega)]
  simp [addr_add]

theorem sl30g (w : World) (A : Option Addr) (len cap lo : Nat) (a : Int) (ha : a = lo) (h1 : lo ≤ len) :
    (Instr.slice 30 (.slice A len cap) (some (.int .i64 a)) none none).run Yba.prog w = .ok (.slice (if cap = lo then A else A.map (·.add lo)) (len - lo) (cap - lo)) w := by
  subst ha
  obtain ⟨i, hi', hz0, hz1, hz2⟩ := info_parts Yba.info3
  simp [Instr.slice, run_underlying Yba.underlying30, Instr.sliceBounds, Instr.sliceBound, asIntOf, sizeOf, typeInfo, hi', hz1, h1]

set_option maxRecDepth 100000 in
set_option maxHeartbeats 400000 in
theorem point_any (w : World) (tb pb d sz i : Nat) (ht : w.cell? ⟨tb, 0, none⟩ = some (.int .i64 d)) (hp : w.cell? ⟨tb, 5, none⟩ = some (.slice (some ⟨pb, 0, none⟩) sz sz)) (hi : (i + 1) * d ≤ sz) (hsz : sz ≤ 2000) (hd : 1 ≤ d) :
    Calls Yba.prog 14 #[.pointer (some ⟨tb, 0, none⟩), .int .i64 i] w fun e w' => e = .returned (.slice (some ⟨pb, i * d, none⟩) d (sz - i * d)) ∧ ∃ q, w' = w.drewN q := by
  have hexp : (i + 1) * d = i * d + d := by rw [Nat.add_mul, Nat.one_mul]
  have hid : i * 1 ≤ i * d := Nat.mul_le_mul_left i hd
  have hslice : ∀ W, (Instr.slice 24 (.slice (some ⟨pb, 0, none⟩) sz sz) (some (.int .i64 ((i : Int) * d))) (some (.int .i64 (((i : Int) + 1) * d))) none).run Yba.prog W = .ok (.slice (some ⟨pb, i * d, none⟩) d (sz - i * d)) W := fun W => by
    have := sl24 W pb 0 sz sz (i * d) ((i + 1) * d) ((i : Int) * d) (((i : Int) + 1) * d) (by simp) (by simp) (by omega) hi (by omega)
    rw [show (i + 1) * d - i * d = d by omega, Nat.zero_add] at this
    exact this
  have c0 : ((i * d : Nat) : Int) = (i : Int) * d := by simp
  have c1 : (((i + 1) * d : Nat) : Int) = ((i : Int) + 1) * d := by simp
  have b0 : (0 : Int) ≤ (i : Int) * (d : Int) := by omega
  have b1 : (i : Int) * (d : Int) ≤ 2000 := by omega
  have b2 : (0 : Int) ≤ ((i : Int) + 1) * (d : Int) := by omega
  have b3 : ((i : Int) + 1) * (d : Int) ≤ 2000 := by omega
  have b4 : (i : Int) ≤ 2000 := by omega
  have b5 : (d : Int) ≤ 2000 := by omega
  clear hexp c0 c1
  go_enter Yba.func14, Yba.ntmps14
  go_wp2
  go_quiet (fail)
  go_wp2
  go_ret
  exact ⟨rfl, _, rfl⟩
end Go.Proofs.Ybulkaghk
