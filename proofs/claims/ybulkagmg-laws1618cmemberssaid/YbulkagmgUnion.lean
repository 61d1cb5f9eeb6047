import Derived.Test.YbulkagmgSmall
namespace Go.Proofs.Ybulkagmg
open Go.RowKit

theorem addr_add (b off j : Nat) : (⟨b, off, none⟩ : Addr).add j = ⟨b, off + j, none⟩ := by unfold Addr.add; split <;> simp_all

/-- the union's bytes -/
def un (s t : ByteArray) : ByteArray := ⟨((List.range s.size).map fun j => UInt8.ofNat (bt s j ||| bt t j)).toArray⟩
theorem un_size (s t : ByteArray) : (un s t).size = s.size := by show (((List.range s.size).map fun j => UInt8.ofNat (bt s j ||| bt t j)).toArray).size = s.size; simp
theorem or_lt (s t : ByteArray) (i : Nat) : bt s i ||| bt t i < 256 := Nat.or_lt_two_pow (n := 8) (bt_lt s i) (bt_lt t i)
theorem bt_un (s t : ByteArray) (i : Nat) (h : i < s.size) : bt (un s t) i = bt s i ||| bt t i := by
  have := or_lt s t i
  show ((((List.range s.size).map fun j => UInt8.ofNat (bt s j ||| bt t j)).toArray)[i]?.getD 0).toNat = _
  rw [List.getElem?_toArray, List.getElem?_map, List.getElem?_range h]
  show (bt s i ||| bt t i) % 256 = _
  omega

/-- the bytes of s, joined with t's up to k, in block b -/
structure Row (w : World) (b k : Nat) (s t : ByteArray) : Prop where
  cell : ∀ j, j < s.size → w.cell? ⟨b, j, none⟩ = some (.int .u8 ((if j < k then bt s j ||| bt t j else bt s j : Nat) : Int))
  free : ∀ j, j < s.size → w.frozen? ⟨b, j, none⟩ = false

theorem Row.set {w : World} {b k : Nat} {s t : ByteArray} (h : Row w b k s t) (hk : k < s.size) : Row (w.setCell ⟨b, k, none⟩ (.int .u8 ((bt s k ||| bt t k : Nat) : Int))) b (k + 1) s t := by
  refine ⟨fun j hj => ?_, fun j hj => by rw [World.frozen?_setCell]; exact h.free j hj⟩
  by_cases e : j = k
  · subst e
    rw [if_pos (by omega)]
    exact World.cell?_setCell_same _ _ _ (h.cell j hj)
  · rw [World.cell?_setCell_other _ _ _ _ (by intro he; apply e; simpa using (congrArg Addr.off he).symm), h.cell j hj]
    by_cases hl : j < k
    · rw [if_pos hl, if_pos (by omega)]
    · rw [if_neg hl, if_neg (by omega)]

theorem Row.of_block {w w' : World} {b k : Nat} {s t : ByteArray} (h : Row w b k s t) (hb : w'.heap[b]? = w.heap[b]?) : Row w' b k s t :=
  ⟨fun j hj => (World.cell?_of_block (a := ⟨b, j, none⟩) hb).trans (h.cell j hj), fun j hj => (World.frozen?_of_block (a := ⟨b, j, none⟩) hb).trans (h.free j hj)⟩

theorem Row.made (w : World) (s t : ByteArray) (cap : Nat) : Row (w.alloc (.cells (bytesRow s cap) 5 ((bytesRow s cap).size, (bytesRow s cap).size + 1))) w.heap.size 0 s t := by
  refine ⟨fun j hj => ?_, fun j hj => ?_⟩
  · have hd : j < s.data.size := hj
    rw [World.cell?_alloc_mark, bytesRow_at s cap j hd, if_neg (by omega)]
    simp [bt, Array.getElem?_eq_getElem hd]
  · have hz : s.size ≤ (bytesRow s cap).size := by show s.data.size ≤ _; simp [bytesRow]
    rw [World.frozen?_alloc_mark]
    simp; omega

theorem conv_back (w : World) (b cap : Nat) (s t : ByteArray) (h : Row w b s.size s t) :
    (convert 41 28 (.slice (some ⟨b, 0, none⟩) s.size cap)).run Yba.prog w = .ok (.string (un s t)) w := by
  have hl : ((List.range s.size).map fun j => UInt8.ofNat (bt s j ||| bt t j)).length = s.size := by simp
  have := run_convert_bytes_back (P := Yba.prog) w 41 28 5 ⟨b, 0, none⟩ cap ((List.range s.size).map fun j => UInt8.ofNat (bt s j ||| bt t j)) Yba.underlying41 Yba.underlying5 Yba.underlying28 (fun j hj => by
    rw [hl] at hj
    have hc := h.cell j hj
    rw [if_pos hj] at hc
    have ho := or_lt s t j
    rw [addr_add, Nat.zero_add, hc, List.getElem_map, List.getElem_range]
    show _ = some (Value.int .u8 (((bt s j ||| bt t j) % 256 : Nat) : Int))
    rw [Nat.mod_eq_of_lt ho])
  rw [hl] at this
  exact this

set_option maxRecDepth 100000 in
theorem union_any (s t : ByteArray) (w : World) (hs : t.size = s.size) (hm : s.size ≤ 512) :
    Calls Yba.prog 9 #[.string s, .string t] w fun e w' => e = .returned (.string (un s t)) ∧ Below w.heap.size w w' := by
  have hconv := run_bytes_of_string (P := Yba.prog) w 28 41 5 s Yba.underlying28 Yba.underlying41 Yba.underlying5
  have hrow := Row.made w s t (grownCap w s.size 0 5)
  generalize grownCap w s.size 0 5 = cap at hconv hrow
  have hbl : ∀ o, Below w.heap.size w (w.alloc o).drew := fun o => ((Below.refl _ _).alloc (Nat.le_refl _) _).drew
  generalize ho : Obj.cells (bytesRow s cap) 5 ((bytesRow s cap).size, (bytesRow s cap).size + 1) = o at hconv hrow
  clear ho
  go_enter Yba.func9, Yba.ntmps9
  go_wp2
  clear hconv
  go_loopw [11] (fun i wr => ∃ k : Nat, k ≤ s.size ∧ i = .int .i64 k ∧ Below w.heap.size w wr ∧ w.heap.size < wr.heap.size ∧ Row wr w.heap.size k s t) (fun i _ => s.size - (intOf i).toNat)
  case atStart => exact ⟨0, Nat.zero_le _, rfl, hbl _, by simp, hrow.of_block rfl⟩
  case round =>
    obtain ⟨k, hk, rfl, bel, hsz, row⟩ := hrel
    by_cases hlt : k < s.size
    · have hi := idx t k (by omega) .i64
      have hc := row.cell k hlt
      rw [if_neg (Nat.lt_irrefl k)] at hc
      have hf := row.free k hlt
      have hor := u8_or_nat (bt s k) (bt t k) (bt_lt s k) (bt_lt t k)
      have hr2 := row.set hlt
      have hb1 := bt_lt s k
      have hb2 := bt_lt t k
      generalize bt s k = b1 at hi hc hor hr2 hb1
      generalize bt t k = b2 at hi hor hr2 hb2
      go_wp2_with fail
      go_region
      go_wp2
      go_roundw
      case rel => exact ⟨k + 1, by omega, by go_num, (bel.setCell (p := ⟨w.heap.size, k, none⟩) (Nat.le_refl _) _).drew, by simpa using hsz, hr2.of_block rfl⟩
      case measure => simp [intOf]; omega
    · obtain rfl : k = s.size := by omega
      have hback := conv_back wr w.heap.size cap s t row
      go_wp2
      go_ret
      exact ⟨rfl, bel⟩
end Go.Proofs.Ybulkagmg
