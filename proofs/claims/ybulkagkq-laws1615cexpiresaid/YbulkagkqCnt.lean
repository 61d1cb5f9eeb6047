import Derived.Test.YbulkagkqPush
import Derived.Maps.OwnSet
import Derived.Maps.OwnOps
namespace Go.Proofs.Ybulkagkq
open Go.RowKit Hp Go.Maps

theorem law : Keyed Yba.prog 22 := int_keyed Yba.underlying22
theorem zero22 (w : World) : (zeroValue 22).run Yba.prog w = .ok (.int .u64 0) w := by kernel_rfl

def U (y : Int) : Prop := (Lit.int .u64 y).wf = true
def upd (C : Int → Nat) (y : Int) (c : Nat) : Int → Nat := fun z => if z = y then c else C z

/-- the map of counts in block cb: C y at y; sz keys -/
def Cnt (w : World) (cb : Nat) (C : Int → Nat) (sz : Nat) : Prop :=
  ∃ D : DataW Unit, w.ownsMap Yba.prog 22 (plainElem Yba.prog 22) cb sz D ∧ Maps.size D = sz ∧
    (∀ y, U y → D.atKey (.int .u64 y) (.lit (.int .u64 0)) = .lit (.int .u64 (C y))) ∧ ∀ y, U y → Maps.has D (.int .u64 y) = decide (C y ≠ 0)

theorem ownsMap_tight {w : World} {cb n : Nat} {D : DataW Unit} (h : w.ownsMap Yba.prog 22 (plainElem Yba.prog 22) cb n D) : w.ownsMap Yba.prog 22 (plainElem Yba.prog 22) cb (Maps.size D) D := by
  obtain ⟨es, clock, hb, F, hs, hD⟩ := h
  refine ⟨es, clock, hb, F, ?_, hD⟩
  rw [hD]
  simp [Maps.size, length_sorted]

theorem Cnt.of_block {w w' : World} {cb sz : Nat} {C : Int → Nat} (h : Cnt w cb C sz) (hb : w'.heap[cb]? = w.heap[cb]?) : Cnt w' cb C sz := by
  obtain ⟨D, ⟨es, clock, hb', F, hs, hD⟩, h2⟩ := h
  exact ⟨D, ⟨es, clock, hb.trans hb', F, hs, hD⟩, h2⟩

theorem Cnt.isMap {w : World} {cb sz : Nat} {C : Int → Nat} (h : Cnt w cb C sz) : ∃ es clock, w.heap[cb]? = some (.map es clock) := by
  obtain ⟨D, ⟨es, clock, hb', F, hs, hD⟩, h2⟩ := h
  exact ⟨es, clock, hb'⟩

theorem Cnt.lt {w : World} {cb sz : Nat} {C : Int → Nat} (h : Cnt w cb C sz) : cb < w.heap.size := by
  obtain ⟨es, clock, hb⟩ := h.isMap
  exact (Array.getElem?_eq_some_iff.1 hb).1

theorem Cnt.made (w : World) : Cnt (w.alloc (.map #[] 0)) w.heap.size (fun _ => 0) 0 :=
  ⟨.map [], World.ownsMap_made _ _ _ _, rfl, fun _ _ => rfl, fun _ _ => rfl⟩

theorem Cnt.look {w : World} {cb sz : Nat} {C : Int → Nat} (h : Cnt w cb C sz) {y : Int} (hy : U y) : (Instr.lookup 41 (.map (some cb)) (.int .u64 y) false).run Yba.prog w = .ok (.int .u64 (C y)) w := by
  obtain ⟨D, hown, _, hat, _⟩ := h
  obtain ⟨c, hrun, hc, _⟩ := hown.lookup_int law Yba.underlying41 Yba.underlying22 (zero22 w) (keyOf_int_mk Yba.underlying22 hy)
  rw [hat y hy] at hc
  simp only [DataW.lit.injEq, Lit.int.injEq, true_and] at hc
  rw [hrun, hc]

theorem Cnt.look_ok {w : World} {cb sz : Nat} {C : Int → Nat} (h : Cnt w cb C sz) {y : Int} (hy : U y) : (Instr.lookup 41 (.map (some cb)) (.int .u64 y) true).run Yba.prog w = .ok (.tuple #[.int .u64 (C y), .bool (decide (C y ≠ 0))]) w := by
  obtain ⟨D, hown, _, hat, hhas⟩ := h
  obtain ⟨v, ps, hrun, hv⟩ := hown.look_ok law Yba.underlying41 (zero22 w) (plainElem_int Yba.underlying22 (by decide)) (keyOf_int_mk Yba.underlying22 hy)
  obtain ⟨c, rfl, hc, _⟩ := plainElem_int_inv Yba.underlying22 hv
  have hc1 := congrArg Prod.fst hc
  simp only [hat y hy, DataW.lit.injEq, Lit.int.injEq, true_and] at hc1
  rw [hrun, ← hc1, hhas y hy]

theorem Cnt.len {w : World} {cb sz : Nat} {C : Int → Nat} (h : Cnt w cb C sz) (ty : TypeId) : (Builtin.len_ #[41] ty #[.map (some cb)]).run Yba.prog w = .ok (.int .i64 sz) w := by
  obtain ⟨D, hown, hsz, _⟩ := h
  rw [hown.len Yba.underlying41 ty, hsz]

theorem isKey22 (y : Int) : WideAt.IsKeyLit (.int .u64 y) := trivial

theorem Cnt.put {w : World} {cb sz : Nat} {C : Int → Nat} (h : Cnt w cb C sz) (hsz : sz < maxLen) {y : Int} (hy : U y) {c : Nat} (hc : U c) (hc0 : c ≠ 0) :
    ∃ w', (Instr.mapUpdate 41 (.map (some cb)) (.int .u64 y) (.int .u64 (c : Int))).run Yba.prog w = .ok () w' ∧ Cnt w' cb (upd C y c) (if C y = 0 then sz + 1 else sz) ∧ w.grownBy w' (some cb) := by
  obtain ⟨D, hown, hs, hat, hhas⟩ := h
  obtain ⟨w', hrun, hown', hg⟩ := hown.update law Yba.underlying41 hsz (keyOf_int_mk Yba.underlying22 hy) (plainElem_int Yba.underlying22 hc)
  have htidy := hown.tidy law
  have hsize : Maps.size (D.put (.int .u64 y) (.lit (.int .u64 c))) = if C y = 0 then sz + 1 else sz := by
    rw [size_put htidy, hhas y hy, hs]
    by_cases e : C y = 0 <;> simp [e]
  refine ⟨w', hrun, ⟨_, by rw [← hsize]; exact ownsMap_tight hown', hsize, fun z hz => ?_, fun z hz => ?_⟩, hg⟩
  · by_cases e : z = y
    · subst e; rw [atKey_put_same htidy.isMap (isKey22 z)]; simp [upd]
    · rw [atKey_put_other (by simpa using e), hat z hz]; simp [upd, e]
  · by_cases e : z = y
    · subst e; rw [has_put_same htidy.isMap (isKey22 z)]; simp [upd, hc0]
    · rw [has_put_other (by simpa using e), hhas z hz]; simp [upd, e]

theorem Cnt.del {w : World} {cb sz : Nat} {C : Int → Nat} (h : Cnt w cb C sz) {y : Int} (hy : U y) (hc0 : C y ≠ 0) (ty : TypeId) :
    ∃ w', (Builtin.delete_ #[41, 22] ty #[.map (some cb), .int .u64 y]).run Yba.prog w = .ok (.tuple #[]) w' ∧ Cnt w' cb (upd C y 0) (sz - 1) ∧ w.grownBy w' (some cb) := by
  obtain ⟨D, hown, hs, hat, hhas⟩ := h
  obtain ⟨w', hrun, hown', hg⟩ := hown.drop law Yba.underlying41 (keyOf_int_mk Yba.underlying22 hy) ty
  have htidy := hown.tidy law
  have hsize : Maps.size (D.del (.int .u64 y)) = sz - 1 := by
    have := size_del htidy (k := .int .u64 y)
    rw [hhas y hy, hs] at this
    simp [hc0] at this
    omega
  refine ⟨w', hrun, ⟨_, by rw [← hsize]; exact ownsMap_tight hown', hsize, fun z hz => ?_, fun z hz => ?_⟩, hg.grown⟩
  · by_cases e : z = y
    · subst e; rw [atKey_del_same]; simp [upd]
    · rw [atKey_del_other (by simpa using e), hat z hz]; simp [upd, e]
  · by_cases e : z = y
    · subst e; rw [has_del_same]; simp [upd]
    · rw [has_del_other (by simpa using e), hhas z hz]; simp [upd, e]
end Go.Proofs.Ybulkagkq
