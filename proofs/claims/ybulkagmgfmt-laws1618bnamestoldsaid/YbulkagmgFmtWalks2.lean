import Derived.Test.YbulkagmgFmtRows
import Derived.WalkKit
import Derived.ProofKit
namespace Go.Proofs.YbulkagmgFmt
open Go.RowKit Go.Extern.Stop Go.Stop Go.Extern

theorem u8_bounds {a : Int} (h : (Lit.int .u8 a).wf = true) : 0 ≤ a ∧ a ≤ 255 := by
  simp only [Lit.wf, Bool.and_eq_true, decide_eq_true_eq] at h
  have h1 : IntKind.u8.min = 0 := rfl
  have h2 : IntKind.u8.max = 255 := rfl
  omega

/-- the text that a verdict prints as -/
def nm : Int → ByteArray
  | 0 => ⟨#[104, 111, 108, 100, 115]⟩
  | 1 => ⟨#[118, 105, 111, 108, 97, 116, 101, 100]⟩
  | _ => ⟨#[117, 110, 102, 105, 110, 105, 115, 104, 101, 100]⟩

set_option maxRecDepth 100000 in
theorem str_any (k : Int) (hk : k = 0 ∨ k = 1 ∨ k = 2) (w : World) :
    Calls Ybaf.prog 5 #[.int .i64 k] w fun e w' => e = .returned (.string (nm k)) ∧ w' = w := by
  rcases hk with rfl | rfl | rfl <;>
  · go_enter Ybaf.func5, Ybaf.ntmps5
    go_wp2
    go_ret
    exact ⟨rfl, rfl⟩

set_option maxRecDepth 100000 in
theorem name_any (k : Int) (hk : k = 0 ∨ k = 1 ∨ k = 2) (w : World) :
    Calls Ybaf.prog 6 #[.int .i64 k] w fun e w' => e = .returned (.string (nm k)) ∧ w' = w := by
  rcases hk with rfl | rfl | rfl <;>
  · go_enter Ybaf.func6, Ybaf.ntmps6
    go_wp2
    go_ret
    exact ⟨rfl, rfl⟩

set_option maxRecDepth 100000 in
theorem names_walk (x : Int) (w : World) (hwf : (Lit.int .u8 x).wf = true) :
    Calls Ybaf.prog 3 #[.int .u8 x] w fun e w' => e = .returned (.bool true) ∧ w' = w := by
  obtain ⟨p0, p1⟩ := u8_bounds hwf
  have hk : x % 3 = 0 ∨ x % 3 = 1 ∨ x % 3 = 2 := by omega
  go_enter Ybaf.func3, Ybaf.ntmps3
  go_wp2_with fail
  refine (str_any (x % 3) hk w).mono ?_
  rintro e w' ⟨rfl, rfl⟩
  go_wp2_with fail
  refine (name_any (x % 3) hk w').mono ?_
  rintro e w'' ⟨rfl, rfl⟩
  go_wp2
  go_ret
  exact ⟨rfl, rfl⟩
end Go.Proofs.YbulkagmgFmt
