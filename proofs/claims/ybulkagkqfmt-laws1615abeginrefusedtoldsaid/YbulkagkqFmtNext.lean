import Derived.Test.YbulkagkqFmtRows
import Derived.Test.YbulkagkqFmtFacts
import Derived.WalkKit
import Derived.ProofKit
namespace Go.Proofs.YbulkagkqFmt
open Go.RowKit Go.Extern.Stop Go.Stop Go.Extern

set_option maxRecDepth 100000 in
set_option maxHeartbeats 400000 in
theorem chk_zero (F : Interp) (b : Addr) (s : ByteArray) (n ll : Int) (w : World) (hF : F.answers w.tape) (hg : w.cell? ⟨1, 0, none⟩ = some (.iface 104 (.pointer (some b)))) (hb : w.cell? b = some (.string s)) (hgl : 1 < w.heap.size) :
    Calls Ybaf.prog 12 #[.agg #[.int .u64 0, .int .u64 n, .int .u64 ll], .int .u64 0, .int .u64 n] w fun e w' => ∃ pb, e = .returned (.iface 98 (.pointer (some ⟨pb, 0, none⟩))) ∧ w'.cell? ⟨pb, 1, none⟩ = some (.iface 104 (.pointer (some b))) ∧ Below w.heap.size w w' := by
  have hF' : ∀ i name reading k range, w.tape i (.extern (word name reading k) range) = F name reading k := hF
  have hbl := World.block_lt_of_cell? _ _ hb
  have hb2 : ((w.alloc (.cells #[.int .u64 0, .int .u64 n, .int .u64 ll] 25)).alloc (.cells #[.iface 104 (.pointer (some b))] 20)).cell? b = some (.string s) := by
    rw [World.cell?_alloc_lt _ _ _ (by simp; omega), World.cell?_alloc_lt _ _ _ hbl]; exact hb
  have hop := Ybaf.opPlain104_119w "fmt.errorf" b s _ hb2
  go_enter Ybaf.func12, Ybaf.ntmps12
  go_wp2
  go_ret
  refine ⟨_, rfl, ?_, ?_⟩
  · rw [World.cell?_drew, World.cell?_alloc_at _ _ _ _ (by simp)]; rfl
  · exact ((((Below.refl _ _).alloc (Nat.le_refl _) _).alloc (by simp) _).alloc (by simp; omega) _).drew

theorem u64_bounds {a : Int} (h : (Lit.int .u64 a).wf = true) : 0 ≤ a ∧ a ≤ 18446744073709551615 := by
  simp only [Lit.wf, Bool.and_eq_true, decide_eq_true_eq] at h
  have h1 : IntKind.u64.min = 0 := rfl
  have h2 : IntKind.u64.max = 18446744073709551615 := rfl
  omega

set_option maxRecDepth 100000 in
set_option maxHeartbeats 400000 in
theorem chk_pos (F : Interp) (b : Addr) (s : ByteArray) (h n ll : Int) (w : World) (hwf : (Lit.int .u64 h).wf = true) (h0 : h ≠ 0) (hF : F.answers w.tape) (hg : w.cell? ⟨1, 0, none⟩ = some (.iface 104 (.pointer (some b)))) (hb : w.cell? b = some (.string s)) (hgl : 1 < w.heap.size) :
    Calls Ybaf.prog 12 #[.agg #[.int .u64 h, .int .u64 n, .int .u64 ll], .int .u64 h, .int .u64 n] w fun e w' => ∃ pb, e = .returned (.iface 98 (.pointer (some ⟨pb, 0, none⟩))) ∧ w'.cell? ⟨pb, 1, none⟩ = some (.iface 104 (.pointer (some b))) ∧ Below w.heap.size w w' := by
  have hF' : ∀ i name reading k range, w.tape i (.extern (word name reading k) range) = F name reading k := hF
  have hbl := World.block_lt_of_cell? _ _ hb
  have hb2 : ((w.alloc (.cells #[.int .u64 h, .int .u64 n, .int .u64 ll] 25)).alloc (.cells #[.iface 104 (.pointer (some b)), .iface 22 (.int .u64 h), .iface 22 (.int .u64 h)] 20)).cell? b = some (.string s) := by
    rw [World.cell?_alloc_lt _ _ _ (by simp; omega), World.cell?_alloc_lt _ _ _ hbl]; exact hb
  have hop := Ybaf.opPlain104_119w "fmt.errorf" b s _ hb2
  have hz : (h == 0) = false := beq_eq_false_iff_ne.2 h0
  obtain ⟨p0, p1⟩ := u64_bounds hwf
  by_cases hm : h = 18446744073709551615
  · have hmb : (h == 18446744073709551615) = true := beq_iff_eq.2 hm
    have HM : Hid (h = 18446744073709551615) := hm
    clear hm
    go_enter Ybaf.func12, Ybaf.ntmps12
    go_wp2
    go_ret
    refine ⟨_, rfl, ?_, ?_⟩
    · rw [World.cell?_drew, World.cell?_alloc_at _ _ _ _ (by simp)]; rfl
    · exact ((((Below.refl _ _).alloc (Nat.le_refl _) _).alloc (by simp) _).alloc (by simp; omega) _).drew
  · have hmb : (h == 18446744073709551615) = false := beq_eq_false_iff_ne.2 hm
    have p2 : h + 1 ≤ 18446744073709551615 := by omega
    have hnb : (h == h + 1) = false := beq_eq_false_iff_ne.2 (by omega)
    clear hm
    go_enter Ybaf.func12, Ybaf.ntmps12
    go_wp2
    go_ret
    refine ⟨_, rfl, ?_, ?_⟩
    · rw [World.cell?_drew, World.cell?_alloc_at _ _ _ _ (by simp)]; rfl
    · exact ((((Below.refl _ _).alloc (Nat.le_refl _) _).alloc (by simp) _).alloc (by simp; omega) _).drew

theorem chk_any (F : Interp) (b : Addr) (s : ByteArray) (h n ll : Int) (w : World) (hwf : (Lit.int .u64 h).wf = true) (hF : F.answers w.tape) (hg : w.cell? ⟨1, 0, none⟩ = some (.iface 104 (.pointer (some b)))) (hb : w.cell? b = some (.string s)) (hgl : 1 < w.heap.size) :
    Calls Ybaf.prog 12 #[.agg #[.int .u64 h, .int .u64 n, .int .u64 ll], .int .u64 h, .int .u64 n] w fun e w' => ∃ pb, e = .returned (.iface 98 (.pointer (some ⟨pb, 0, none⟩))) ∧ w'.cell? ⟨pb, 1, none⟩ = some (.iface 104 (.pointer (some b))) ∧ Below w.heap.size w w' := by
  by_cases h0 : h = 0
  · subst h0; exact chk_zero F b s n ll w hF hg hb hgl
  · exact chk_pos F b s h n ll w hwf h0 hF hg hb hgl
end Go.Proofs.YbulkagkqFmt
