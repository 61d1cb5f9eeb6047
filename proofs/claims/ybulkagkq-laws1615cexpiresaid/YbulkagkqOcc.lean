import Derived.Test.YbulkagkqAdd
namespace Go.Proofs.Ybulkagkq
open Go.RowKit Hp Go.Maps

/-- WHAT THE WALK IS TOLD OF A SLICE OF INTEGERS THAT CAME IN. -/
def IsRow (k : IntKind) (w : World) (a : Option Addr) (len cap : Nat) (zs : List Int) : Prop :=
  (a = none ∧ len = 0 ∧ cap = 0 ∧ zs = []) ∨
  ∃ x, a = some x ∧ len ≤ cap ∧ cap ≤ maxLen ∧ zs.length = cap ∧ (∀ i, i < zs.length → w.cell? (x.add i) = some (.int k (zs.getD i 0))) ∧ ∀ n ∈ zs, (Lit.int k n).wf = true

theorem addr_add (b o k : Nat) : (⟨b, o, none⟩ : Addr).add k = ⟨b, o + k, none⟩ := by
  simp [Addr.add]

/-- the input as the walks read it: L the elements -/
structure Inp (w : World) (a : Option Addr) (len : Nat) (L : List Int) : Prop where
  hlen : L.length = len
  at' : 0 < len → ∃ b off, a = some ⟨b, off, none⟩ ∧ b < w.heap.size ∧ ∀ i, i < len → w.cell? ⟨b, off + i, none⟩ = some (.int .u64 (el L i))
  wf : ∀ y ∈ L, U y

theorem Inp.of_row {w : World} {a : Option Addr} {len cap : Nat} {zs : List Int} (h : IsRow .u64 w a len cap zs) : Inp w a len (zs.take len) := by
  rcases h with ⟨_, rfl, _, rfl⟩ | ⟨x, rfl, hlc, hcm, hz, hc, hw⟩
  · exact ⟨rfl, fun h => by omega, fun y hy => by simp at hy⟩
  · refine ⟨by simp; omega, fun h0 => ?_, fun y hy => hw y (List.mem_of_mem_take hy)⟩
    obtain ⟨b, off, spot⟩ := x
    have h0' := hc 0 (by omega)
    have hspot : spot = none := by simpa [Addr.add] using World.cell?_spot h0'
    subst hspot
    refine ⟨b, off, rfl, World.block_lt_of_cell? _ _ (by simpa [Addr.add] using h0'), fun i hi => ?_⟩
    rw [← addr_add, hc i (by omega)]
    simp [el, hi]

theorem Inp.below {w w' : World} {a : Option Addr} {len : Nat} {L : List Int} (h : Inp w a len L) (hb : Below w.heap.size w w') : Inp w' a len L :=
  ⟨h.hlen, fun h0 => by
    obtain ⟨b, off, e, hlt, hc⟩ := h.at' h0
    exact ⟨b, off, e, Nat.lt_of_lt_of_le hlt hb.size, fun i hi => (hb.cell (p := ⟨b, off + i, none⟩) hlt).trans (hc i hi)⟩, h.wf⟩

theorem Inp.uel {w : World} {a : Option Addr} {len : Nat} {L : List Int} (h : Inp w a len L) {i : Nat} (hi : i < len) : U (el L i) := by
  apply h.wf
  have := h.hlen
  simp [el, List.getD_eq_getElem?_getD, List.getElem?_eq_getElem (show i < L.length by omega)]

theorem take_succ_el (L : List Int) (k : Nat) (hk : k < L.length) : L.take (k + 1) = L.take k ++ [el L k] := by
  rw [List.take_succ_eq_append_getElem hk]
  simp [el, hk]

theorem count_bound (L : List Int) (k : Nat) (y : Int) : (L.take k).count y ≤ k := Nat.le_trans List.count_le_length (by simp; omega)

/-- how many different ones among the first k -/
def dcTo (L : List Int) : Nat → Nat
  | 0 => 0
  | k + 1 => dcTo L k + if (L.take k).count (el L k) = 0 then 1 else 0

theorem dcTo_le (L : List Int) : ∀ k, dcTo L k ≤ k
  | 0 => Nat.le_refl _
  | k + 1 => by
    have := dcTo_le L k
    unfold dcTo
    split <;> omega

set_option maxRecDepth 100000 in
theorem occ_any (w : World) (a : Option Addr) (len cap : Nat) (L : List Int) (y : Int) (h : Inp w a len L) (hl : len ≤ 1024) :
    Calls Yba.prog 11 #[.slice a len cap, .int .u64 y] w fun e w' => e = .returned (.int .u64 (L.count y)) ∧ w' = w := by
  go_enter Yba.func11, Yba.ntmps11
  go_wp2
  go_loop [5, 10] (fun n i => ∃ k : Nat, k ≤ len ∧ i = .int .i64 k ∧ n = .int .u64 ((L.take k).count y)) (fun _ i => len - (intOf i).toNat)
  case atStart => exact ⟨0, Nat.zero_le _, rfl, rfl⟩
  case round =>
    obtain ⟨k, hk, rfl, rfl⟩ := hrel
    have hcb := count_bound L k y
    by_cases hlt : k < len
    · obtain ⟨b, off, rfl, hb, hc⟩ := h.at' (by omega)
      have hck := hc k hlt
      have HS : Hid ((L.take (k + 1)).count y = (L.take k).count y + if el L k = y then 1 else 0) := by
        show _ = _
        rw [take_succ_el L k (by rw [h.hlen]; exact hlt), List.count_append, List.count_singleton]
        simp
      generalize (L.take k).count y = c at *
      by_cases e : el L k = y
      · have eb : (el L k == y) = true := beq_iff_eq.2 e
        have HE : Hid (el L k = y) := e
        clear e
        go_wp2
        go_round
        case rel => exact ⟨k + 1, by omega, by go_num, by rw [HS.out, if_pos HE.out]; go_num⟩
        case measure => simp [intOf]; omega
      · have eb : (el L k == y) = false := beq_eq_false_iff_ne.2 e
        have HE : Hid (¬ el L k = y) := e
        clear e
        go_wp2
        go_round
        case rel => exact ⟨k + 1, by omega, by go_num, by rw [HS.out, if_neg HE.out]; go_num⟩
        case measure => simp [intOf]; omega
    · go_wp2
      go_ret
      refine ⟨?_, rfl⟩
      rw [List.take_of_length_le (by rw [h.hlen]; omega)]
      rfl

set_option maxRecDepth 100000 in
set_option maxHeartbeats 400000 in
theorem distinct_any (w : World) (a : Option Addr) (len cap : Nat) (L : List Int) (h : Inp w a len L) (hl : len ≤ 1024) :
    Calls Yba.prog 12 #[.slice a len cap] w fun e w' => e = .returned (.int .i64 (dcTo L len)) ∧ w' = w := by
  go_enter Yba.func12, Yba.ntmps12
  go_wp2
  go_loop [3, 10] (fun n i => ∃ k : Nat, k ≤ len ∧ i = .int .i64 k ∧ n = .int .i64 (dcTo L k)) (fun _ i => len - (intOf i).toNat)
  case atStart => exact ⟨0, Nat.zero_le _, rfl, rfl⟩
  case round =>
    obtain ⟨k, hk, rfl, rfl⟩ := hrel
    have hdb := dcTo_le L k
    by_cases hlt : k < len
    · obtain ⟨b, off, rfl, hb, hc⟩ := h.at' (by omega)
      have hck := hc k hlt
      have HS : Hid (dcTo L (k + 1) = dcTo L k + if (L.take k).count (el L k) = 0 then 1 else 0) := rfl
      generalize dcTo L k = dk at *
      generalize hxe : el L k = x at *
      go_wp2
      go_loop [6, 7] (fun f j => ∃ m : Nat, m ≤ k ∧ j = .int .i64 m ∧ f = .bool true ∧ Hid ((L.take m).count x = 0)) (fun _ j => k - (intOf j).toNat)
      case atStart => exact ⟨0, Nat.zero_le _, rfl, rfl, rfl⟩
      case round =>
        obtain ⟨m, hm, rfl, rfl, hno⟩ := hrel
        by_cases hmk : m < k
        · have hcm := hc m (by omega)
          by_cases e : el L m = x
          · have eb : (el L m == x) = true := beq_iff_eq.2 e
            have hcnt : (L.take k).count x ≠ 0 := by
              have hmem : x ∈ L.take k := by
                rw [← e]
                have hL := h.hlen
                rw [List.mem_take_iff_getElem]
                exact ⟨m, by omega, by simp [el, show m < L.length by omega]⟩
              exact Nat.pos_iff_ne_zero.1 (List.count_pos_iff.2 hmem)
            have HC : Hid ((L.take k).count x ≠ 0) := hcnt
            clear e hcnt
            go_wp2
            go_round
            case rel => exact ⟨k + 1, by omega, by go_num, by rw [HS.out, if_neg HC.out]; go_num⟩
            case measure => simp [intOf]; omega
          · have eb : (el L m == x) = false := beq_eq_false_iff_ne.2 e
            have HE : Hid ((L.take (m + 1)).count x = 0) := by
              show _ = _
              rw [take_succ_el L m (by rw [h.hlen]; omega), List.count_append, List.count_singleton, hno.out]
              simp [e]
            clear e
            go_wp2
            go_round
            case rel => exact ⟨m + 1, by omega, by go_num, rfl, HE⟩
            case measure => simp [intOf]; omega
        · go_wp2
          go_round
          case rel =>
            obtain rfl : m = k := by omega
            exact ⟨m + 1, by omega, by go_num, by rw [HS.out, if_pos hno.out]; go_num⟩
          case measure => simp [intOf]; omega
    · go_wp2
      go_ret
      obtain rfl : k = len := by omega
      exact ⟨rfl, rfl⟩
end Go.Proofs.Ybulkagkq
