/-
  THE TOLD AND TIED CARD OF LawS1615ABeginRefused, PROVED: the refusals of Begin: ErrBlockOpen while a block is open, ErrBlockOrder behind a commit.
-/
import Derived.Test.YbulkagkqFmtWalks
import Derived.Test.YbulkagkqFmtTie
import Derived.Test.YbulkagkqFmtCards
import Derived.ProofKit
import Derived.Stop.JoinedAt
import Derived.Stop.JoinedTold
import Derived.Stop.Texts
import Derived.Stop.LaidErr
import Derived.Stop.LaidTwo
import Derived.SevenTiedAt
import Derived.WalkSmall
namespace Go.Proofs.YbulkagkqFmt
open Go.ChangeShapes Go.WideShapes Go.ChangeAt Go.RowKit Go.Kit
open Go.Extern.Stop Go.Stop Go.Extern

theorem Ybaf.own : ownKnob Ybaf.prog.godebug = none := by kernel_rfl
theorem Ybaf.laidOut : laidOutB Ybaf.pinned.checked.prog = true := by kernel_rfl
theorem Ybaf.stops : Ybaf.pinned.checked.prog.stops = ["fmt.errorf"] := by kernel_rfl
theorem Ybaf.stopKnobs : Ybaf.pinned.checked.prog.stopKnobs = [] := by kernel_rfl
theorem Ybaf.quiet (os : Os) : Stop.quiet Ybaf.pinned.checked.prog os := by
  intro k hk
  rw [Ybaf.stopKnobs] at hk
  cases hk
theorem Ybaf.gO : Ybaf.prog.globalNamed "example.com/driftlock/driftlock.ErrBlockOpen" = some 0 := by kernel_rfl
theorem Ybaf.gR : Ybaf.prog.globalNamed "example.com/driftlock/driftlock.ErrBlockOrder" = some 1 := by kernel_rfl
theorem Ybaf.gOType : (Ybaf.prog.globals[0]?).map (·.type) = some 51 := by kernel_rfl
theorem Ybaf.gRType : (Ybaf.prog.globals[1]?).map (·.type) = some 51 := by kernel_rfl
theorem Ybaf.cells106 : Ybaf.prog.cellsOf 106 = 1 := by kernel_rfl
theorem Ybaf.cells9 : Ybaf.prog.cellsOf 9 = 1 := by kernel_rfl
theorem Ybaf.star : "*" ++ "errors.errorString" = "*errors.errorString" := by decide
theorem Ybaf.row104 (u : TypeId) (h : Ybaf.prog.typeName? 3 u = some "*errors.errorString") : u = 104 :=
  typeName_ptr_named (nm := "errors.errorString") (by rw [Ybaf.star]; kernel_rfl) (by kernel_rfl) (by decide) u (by rw [Ybaf.star]; exact h)

abbrev openS : ByteArray := { data := #[100, 114, 105, 102, 116, 108, 111, 99, 107, 58, 32, 97, 32, 98, 108, 111, 99, 107, 32, 105, 115, 32, 97, 108, 114, 101, 97, 100, 121, 32, 111, 112, 101, 110] }
abbrev orderS : ByteArray := { data := #[100, 114, 105, 102, 116, 108, 111, 99, 107, 58, 32, 98, 108, 111, 99, 107, 32, 100, 111, 101, 115, 32, 110, 111, 116, 32, 102, 111, 108, 108, 111, 119, 32, 116, 104, 101, 32, 108, 97, 115, 116, 32, 99, 111, 109, 109, 105, 116, 116, 101, 100, 32, 98, 108, 111, 99, 107] }
/-- a world whose first two variables hold the pointers to blocks lo and lo + 1 -/
def turn (w0 : World) (lo : Nat) : World :=
  { w0 with heap := (w0.heap.modify 0 fun
      | .cells _ t frozen => .cells #[.iface 104 (.pointer (some ⟨lo, 0, none⟩))] t frozen
      | o => o).modify 1 fun
      | .cells _ t frozen => .cells #[.iface 104 (.pointer (some ⟨lo + 1, 0, none⟩))] t frozen
      | o => o }
theorem laid_met (os : Os) (args : Array Value) : laidMet Ybaf.prog Rows.lawS1615ABeginRefusedRow.laid (((turn (World.holding Ybaf.prog os ⟨#[.cells #[.string openS] 106, .cells #[.string orderS] 106], #[], []⟩) ((World.holding Ybaf.prog default ⟨#[], #[], []⟩).heap.size)).forCall (fun _ _ => 0) ⟨#[], args, []⟩).memory) :=
  laidMet_of_run (ps := [.cell 0 0, .cell ((World.holding Ybaf.prog default ⟨#[], #[], []⟩).heap.size) 0, .cell 1 0, .cell ((World.holding Ybaf.prog default ⟨#[], #[], []⟩).heap.size + 1) 0]) 8 (by kernel_rfl) (by kernel_rfl) (by kernel_rfl)

set_option maxRecDepth 100000 in
theorem refused_lifted (os : Os) (started : os.Started) (H : Type) (enc : TypeId × Value → H) :
    ReturnsInTold none {} Ybaf.checked os 3 .any Input.okWide ((OpenSpec.ofChange Rows.lawS1615ABeginRefusedSpec).preRow enc Ybaf.prog Ybaf.f3 Rows.lawS1615ABeginRefusedRow.domain false Rows.lawS1615ABeginRefusedRow.laid)
      (fun F => ((OpenSpec.ofChange Rows.lawS1615ABeginRefusedSpec).at F).post enc Ybaf.prog Ybaf.f3 false true false false) (aloneAtReturn Ybaf.prog) nothingAlways := by
  refine returnsInTold_of_row (C := Ybaf.checked) (s := OpenSpec.ofChange Rows.lawS1615ABeginRefusedSpec) (by kernel_rfl) Ybaf.own started (by kernel_rfl) Ybaf.func3
    (OpenSpec.witness_stopped_at (enc := enc) (C := Ybaf.checked) false (turn (World.holding Ybaf.prog os ⟨#[.cells #[.string openS] 106, .cells #[.string orderS] 106], #[], []⟩) ((World.holding Ybaf.prog default ⟨#[], #[], []⟩).heap.size)) #[.bool false, .int .u64 0, .int .u64 0] rfl (by kernel_rfl) (by kernel_rfl) (by kernel_rfl)
      (OpenSpec.preRow_of_B rfl 8 (by kernel_rfl) (by kernel_rfl) (laid_met os _))) ?_
  intro F W base args ds gs before _ hF hval0 hW _ _ _ hL _
  have hval : ∀ (j : Nat) t v, Ybaf.f3.params[j]? = some t → args[j]? = some v → Value.okWide Ybaf.prog W .any base t v := hval0
  have hW' := hW
  obtain ⟨p, q, hA0, hV0, rfl, hfz, hnd⟩ := hW
  have hA : DataW.TrodAll enc Ybaf.prog W 0 (fun _ => true) true Ybaf.f3.params.toList args.toList ds p := hA0
  have hV : DataW.TrodVars enc Ybaf.prog W (fun _ => true) ["example.com/driftlock/driftlock.ErrBlockOpen", "example.com/driftlock/driftlock.ErrBlockOrder"] gs q := hV0
  rw [Ybaf.params3] at hA hval
  obtain ⟨v0, v1, v2, d0, d1, d2, p0, p1, p2, rfl, rfl, rfl, h0, h1, h2⟩ := trodAll_three hA
  obtain ⟨op, rfl, rfl, rfl⟩ := open_bool Ybaf.underlying4 (hval 0 4 v0 rfl rfl) h0
  obtain ⟨h, rfl, rfl, rfl, wh⟩ := open_int Ybaf.underlying22 (hval 1 22 v1 rfl rfl) h1
  obtain ⟨n, rfl, rfl, rfl, wn⟩ := open_int Ybaf.underlying22 (hval 2 22 v2 rfl rfl) h2
  obtain ⟨a0, a1, s0, s1, c0, c1, t0, t1, hv0, hv1, hc0, hs0, hz0, hc1, hs1, hz1, hne, hb0, hb1⟩ := laid_sentinels2 hL Ybaf.gO Ybaf.gOType Ybaf.gR Ybaf.gRType Ybaf.underlying51 Ybaf.row104 Ybaf.underlying104 Ybaf.underlying106 rfl rfl Ybaf.underlying9 Ybaf.cells106 Ybaf.cells9
  have vr : ∀ {X : World}, X.var? Ybaf.prog "example.com/driftlock/driftlock.ErrBlockOpen" = some #[.iface 104 (.pointer (some a0))] → X.var? Ybaf.prog "example.com/driftlock/driftlock.ErrBlockOrder" = some #[.iface 104 (.pointer (some a1))] → ∀ sp : Nat → Bool,
      DataW.TrodVars enc Ybaf.prog X sp ["example.com/driftlock/driftlock.ErrBlockOpen", "example.com/driftlock/driftlock.ErrBlockOrder"] [tok enc (.iface 104 (.pointer (some a0))), tok enc (.iface 104 (.pointer (some a1)))] [.cell 0 0, .cell 1 0] :=
    fun x0 x1 sp => vars_read2 enc Ybaf.gO Ybaf.gOType Ybaf.underlying51 x0 trivial Ybaf.gR Ybaf.gRType Ybaf.underlying51 x1 trivial sp
  obtain ⟨rfl, rfl⟩ := hV.unique (vr hv0 hv1 _)
  clear hA0 hV0 hval0
  have hg0 : W.cell? ⟨0, 0, none⟩ = some (.iface 104 (.pointer (some a0))) := by simpa using World.var?_cell Ybaf.gO hv0 0
  have hg1 : W.cell? ⟨1, 0, none⟩ = some (.iface 104 (.pointer (some a1))) := by simpa using World.var?_cell Ybaf.gR hv1 0
  refine (refused_walk F.told op h n a0 a1 s1 W wh hF hg0 hg1 hc1).mono fun e W' ⟨he, bel⟩ => ?_
  subst he
  have l0 : 0 < W.heap.size := World.block_lt_of_cell? _ _ hg0
  have l1 : 1 < W.heap.size := World.block_lt_of_cell? _ _ hg1
  refine ⟨_, rfl, _, _, _, [], [], [.cell 0 0, .cell 1 0], hW', ?_, ?_, ?_, bel.frame _, fun h => by cases h⟩
  · exact trodAll_mk1 (shut_bool Ybaf.underlying4 true)
  · exact trodAll_mk3 (shut_bool Ybaf.underlying4 op) (shut_int Ybaf.underlying22 wh) (shut_int Ybaf.underlying22 wn)
  · exact vr (var?_below bel Ybaf.gO l0 hv0) (var?_below bel Ybaf.gR l1 hv1) _

theorem lawS1615ABeginRefusedTold_proved : Rows.LawS1615ABeginRefusedToldSaid :=
  Claim7.holds_of_told_tied_any_at .later 3 Ybaf.f3 "fmt.errorf" [] [] _ _ _ _ _ (by kernel_rfl) rfl rfl rfl Ybaf.laidOut (by kernel_rfl) rfl ⟨rfl, rfl, rfl, rfl, rfl, rfl, rfl⟩ rfl rfl (by kernel_rfl) (by kernel_rfl) Ybaf.func3 (by kernel_rfl)
    (of_decide_eq_true (by kernel_rfl)) (by unfold Func.isWrapper; first | (rw [if_pos (by decide +kernel)]; kernel_rfl) | (rw [if_neg (by decide +kernel)]; exact ⟨rfl, rfl⟩)) Ybaf.stops.symm rfl Ybaf.stopKnobs.symm (by kernel_rfl)
    (by kernel_rfl) (by kernel_rfl) (by kernel_rfl) (by kernel_rfl) (by kernel_rfl) (by kernel_rfl) (by kernel_rfl) (by kernel_rfl) (by kernel_rfl) rfl (by kernel_rfl) rfl rfl
    rfl rfl
    rfl (by kernel_rfl) (by kernel_rfl) (by kernel_rfl) (by decide) (by kernel_rfl) lawS1615ABeginRefused_row_tie
    (OpenClaim.moreEntering_of (by kernel_rfl) (by kernel_rfl) (by kernel_rfl) (by kernel_rfl) (by kernel_rfl) (by kernel_rfl) (by kernel_rfl) (by kernel_rfl) (by kernel_rfl) (by kernel_rfl))
    ⟨_, WideRow.started_initial, Ybaf.quiet _⟩
    (fun os started _ H enc _ => refused_lifted os started H enc)

#print axioms lawS1615ABeginRefusedTold_proved
end Go.Proofs.YbulkagkqFmt
