import Derived.Test.YbulkagmgRows
import Derived.Test.YbulkagmgShelf
import Derived.WalkKit
import Derived.ProofKit
import Derived.BigQuiet
import Derived.Lib.BitFns
import Derived.Laws.IdiomStrings
import Derived.Laws.BitsAllLaws
import Derived.WalkSmall
namespace Go.Proofs.Ybulkagmg
open Go.RowKit

set_option maxRecDepth 100000 in
theorem min_any (a b : Int) (w : World) :
    Calls Yba.prog 8 #[.int .i64 a, .int .i64 b] w fun e w' => e = .returned (.int .i64 (if a < b then a else b)) ∧ w' = w := by
  by_cases h : a < b
  · rw [if_pos h]
    go_enter Yba.func8, Yba.ntmps8
    go_wp2
    go_ret
    exact ⟨rfl, rfl⟩
  · rw [if_neg h]
    go_enter Yba.func8, Yba.ntmps8
    go_wp2
    go_ret
    exact ⟨rfl, rfl⟩

/-- a string's byte, as a number -/
def bt (s : ByteArray) (i : Nat) : Nat := (s.data[i]?.getD 0).toNat
theorem bt_lt (s : ByteArray) (i : Nat) : bt s i < 256 := UInt8.toNat_lt _
theorem idx (s : ByteArray) (i : Nat) (h : i < s.size) (k : IntKind) (w : World) : (Instr.index 28 (.string s) (.int k (i : Int))).run Yba.prog w = .ok (.int .u8 (bt s i : Int)) w := by
  rw [run_index_string w 28 s k i Yba.underlying28, dif_pos ⟨by omega, by omega⟩]
  have e : s[(i : Int).toNat]'(by omega) = s.data[i]?.getD 0 := by
    have hd : i < s.data.size := h
    rw [Array.getElem?_eq_getElem hd]
    rfl
  rw [e]
  rfl

theorem bit_eq : ∀ (b : Fin 256) (r : Fin 8), (bits .and .u8 (b.val : Int) ((2 ^ r.val : Nat) : Int) != 0) = b.val.testBit r.val := by decide +kernel
theorem bit_at (b r : Nat) (hb : b < 256) (hr : r < 8) (m : Int) (hm : m = ((2 ^ r : Nat) : Int)) : (bits .and .u8 (b : Int) m != 0) = b.testBit r := by
  subst hm; exact bit_eq ⟨b, hb⟩ ⟨r, hr⟩

set_option maxRecDepth 100000 in
theorem has_any (s : ByteArray) (k : Nat) (w : World) (h1 : k < 8 * s.size) (hm : s.size ≤ 512) :
    Calls Yba.prog 10 #[.string s, .int .i64 (k : Int)] w fun e w' => e = .returned (.bool ((bt s (k / 8)).testBit (k % 8))) ∧ ∃ n, w' = w.drewN n := by
  have hix := idx s (k / 8) (by omega) .i64
  have hb := bt_lt s (k / 8)
  rw [show ((k / 8 : Nat) : Int) = (k : Int) / 8 by omega] at hix
  have hw8 : IntKind.i64.wrap ((k : Int) / 8) = (k : Int) / 8 := by simp [IntKind.wrap, IntKind.bits, IntKind.signed]; omega
  obtain ⟨r, hr⟩ : ∃ r, r = k % 8 := ⟨_, rfl⟩
  have hk : (k : Int) % 8 = (r : Int) := by omega
  have h8 : r = 0 ∨ r = 1 ∨ r = 2 ∨ r = 3 ∨ r = 4 ∨ r = 5 ∨ r = 6 ∨ r = 7 := by omega
  rw [← hr]
  clear hr
  generalize bt s (k / 8) = b at hix hb
  rcases h8 with rfl | rfl | rfl | rfl | rfl | rfl | rfl | rfl <;>
  · go_enter Yba.func10, Yba.ntmps10
    go_wp2_with fail
    go_quiet (fail)
    go_wp2
    go_ret
    exact ⟨congrArg (fun x => Ending.returned (.bool x)) (bit_at b _ hb (by decide) _ rfl), nq, rfl⟩

theorem incl_zero (a b : Nat) (ha : a < 256) (hb : b < 256) (h : ∀ i, a.testBit i = true → b.testBit i = true) : bits .andNot .u8 (a : Int) (b : Int) = 0 := by
  rw [u8_andNot_nat a b ha hb]
  have e : a &&& (255 - b) = 0 := by
    apply Nat.eq_of_testBit_eq
    intro i
    rw [Nat.testBit_and, show 255 - b = 2 ^ 8 - (b + 1) by omega, Nat.testBit_two_pow_sub_succ (by simpa using hb)]
    simp only [Nat.zero_testBit]
    cases ht : a.testBit i
    · rfl
    · simp [h i ht]
  rw [e]; rfl

set_option maxRecDepth 100000 in
theorem incl_any (r s : ByteArray) (w : World) (hs : s.size = r.size) (hm : r.size ≤ 512) (h : ∀ i, i < r.size → ∀ j, (bt s i).testBit j = true → (bt r i).testBit j = true) :
    Calls Yba.prog 11 #[.string r, .string s] w fun e w' => e = .returned (.bool true) ∧ Below w.heap.size w w' := by
  go_enter Yba.func11, Yba.ntmps11
  go_wp2
  go_loopw [8] (fun i wr => ∃ k : Nat, k ≤ r.size ∧ i = .int .i64 k ∧ Below w.heap.size w wr) (fun i _ => r.size - (intOf i).toNat)
  case atStart => exact ⟨0, Nat.zero_le _, rfl, Below.refl _ _⟩
  case round =>
    obtain ⟨k, hk, rfl, bel⟩ := hrel
    by_cases hlt : k < r.size
    · have hi1 := idx s k (by omega) .i64
      have hi2 := idx r k hlt .i64
      have hz := incl_zero _ _ (bt_lt s k) (bt_lt r k) (h k hlt)
      generalize bt s k = b1 at hi1 hz
      generalize bt r k = b2 at hi2 hz
      go_wp2_with fail
      go_quiet (fail)
      go_wp2
      go_roundw
      case rel => exact ⟨k + 1, by omega, by go_num, below_drewN bel _⟩
      case measure => simp [intOf]; omega
    · go_wp2
      go_ret
      exact ⟨rfl, bel⟩

/-- how many bits are set in the first k bytes -/
def cnt (s : ByteArray) : Nat → Nat
  | 0 => 0
  | k + 1 => cnt s k + Lib.onesCount (bt s k)
theorem cnt_le (s : ByteArray) : ∀ k, cnt s k ≤ 8 * k
  | 0 => Nat.le_refl _
  | k + 1 => by
    have := cnt_le s k
    have := Lib.onesCount_le8 ⟨bt s k, bt_lt s k⟩
    simp only [cnt] at *
    omega

set_option maxRecDepth 100000 in
theorem len_any (s : ByteArray) (w : World) (hm : s.size ≤ 512) :
    Calls Yba.prog 12 #[.string s] w fun e w' => e = .returned (.int .i64 (cnt s s.size : Int)) ∧ Below w.heap.size w w' := by
  go_enter Yba.func12, Yba.ntmps12
  go_wp2
  go_loopw [3, 7] (fun v i wr => ∃ k : Nat, k ≤ s.size ∧ v = .int .i64 (cnt s k : Int) ∧ i = .int .i64 k ∧ Below w.heap.size w wr) (fun _ i _ => s.size - (intOf i).toNat)
  case atStart => exact ⟨0, Nat.zero_le _, rfl, rfl, Below.refl _ _⟩
  case round =>
    obtain ⟨k, hk, rfl, rfl, bel⟩ := hrel
    by_cases hlt : k < s.size
    · have hi := idx s k hlt .i64
      have hb := bt_lt s k
      have hc := cnt_le s k
      have hp := Lib.onesCount_le8 ⟨bt s k, bt_lt s k⟩
      have hcs : cnt s (k + 1) = cnt s k + Lib.onesCount (bt s k) := rfl
      have HC : Hid (cnt s (k + 1) = cnt s k + Lib.onesCount (bt s k)) := hcs
      clear hcs
      have hpop := fun w => Yba.bits_OnesCount8 (bt s k : Int) w (by omega) (by omega)
      rw [Int.toNat_natCast] at hpop
      simp only at hp
      go_wp2_with fail
      refine (hpop wr).mono ?_
      rintro e w' ⟨rfl, rfl⟩
      go_wp2
      go_roundw
      case rel => exact ⟨k + 1, by omega, by rw [HC.out]; go_num, by go_num, bel⟩
      case measure => simp [intOf]; omega
    · obtain rfl : k = s.size := by omega
      go_wp2
      go_ret
      exact ⟨rfl, bel⟩
end Go.Proofs.Ybulkagmg
