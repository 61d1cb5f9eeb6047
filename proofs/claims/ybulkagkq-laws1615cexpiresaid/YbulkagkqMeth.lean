import Derived.Test.YbulkagkqLess
namespace Go.Proofs.Ybulkagkq
open Go.RowKit Hp
theorem load43 (w : World) (a : Addr) (v : Value) (h : w.cell? a = some v) : (loadVar 43 a).run Yba.prog w = .ok v w := by
  simp [go_sem, h]

theorem chk74 (w : World) (a : Addr) (x y : String) : (Builtin.ssaWrapNilChk_ #[74] 74 #[.pointer (some a), strVal x, strVal y]).run Yba.prog w = .ok (.pointer (some a)) w := rfl

theorem recv74 (w : World) (a : Addr) (v : Value) (y : String) (h : w.cell? a = some v) : (receiverAt 74 (.val (.pointer (some a))) false (some y)).run Yba.prog w = .ok v w := by
  unfold receiverAt
  simp only [Sem.run_bind, run_underlying Yba.underlying74, Result.andThen, Place.get, Sem.run_pure, chk74, asAddr, load43 w a v h]

theorem meth_val {nm : String} {f : FuncId} (hm : ((Yba.prog.info? 74).bind fun i => i.methods.find? (·.name == nm)).map (fun m => (m.path, m.func)) = some (#[], some (f, false)))
    (w : World) (a : Addr) (v : Value) (h : w.cell? a = some v) : (method 261 74 (.pointer (some a)) nm).run Yba.prog w = .ok (f, v) w := by
  obtain ⟨m, hm1, hm2⟩ := Option.map_eq_some_iff.1 hm
  obtain ⟨i, hi1, hi2⟩ := Option.bind_eq_some_iff.1 hm1
  simp only [Prod.mk.injEq] at hm2
  obtain ⟨hp, hf⟩ := hm2
  have hr := fun y => recv74 w a v y h
  have ht : (typeInfo 74).run Yba.prog w = .ok i w := by simp [typeInfo, hi1]
  show (method (260 + 1) 74 (.pointer (some a)) nm).run Yba.prog w = .ok (f, v) w
  rw [method]
  simp only [Sem.run_bind, ht, Result.andThen, hi2, hp, hf, follow, Sem.run_pure]
  simp only [Array.isEmpty_empty, if_true, hr]
theorem mLess : ((Yba.prog.info? 74).bind fun i => i.methods.find? (·.name == "Less")).map (fun m => (m.path, m.func)) = some (#[], some (52, false)) := by kernel_rfl
theorem mLen : ((Yba.prog.info? 74).bind fun i => i.methods.find? (·.name == "Len")).map (fun m => (m.path, m.func)) = some (#[], some (51, false)) := by kernel_rfl
theorem mSwap : ((Yba.prog.info? 74).bind fun i => i.methods.find? (·.name == "Swap")).map (fun m => (m.path, m.func)) = some (#[], some (53, false)) := by kernel_rfl
theorem meth_less (w : World) (a : Addr) (v : Value) (h : w.cell? a = some v) : (method 261 74 (.pointer (some a)) "Less").run Yba.prog w = .ok (52, v) w := meth_val mLess w a v h
theorem meth_len (w : World) (a : Addr) (v : Value) (h : w.cell? a = some v) : (method 261 74 (.pointer (some a)) "Len").run Yba.prog w = .ok (51, v) w := meth_val mLen w a v h
theorem meth_swap (w : World) (a : Addr) (v : Value) (h : w.cell? a = some v) : (method 261 74 (.pointer (some a)) "Swap").run Yba.prog w = .ok (53, v) w := meth_val mSwap w a v h
theorem meth_push (w : World) (b o : Nat) : (method 261 74 (.pointer (some ⟨b, o, none⟩)) "Push").run Yba.prog w = .ok (56, .pointer (some ⟨b, o, none⟩)) w := by kernel_rfl
theorem meth_pop (w : World) (b o : Nat) : (method 261 74 (.pointer (some ⟨b, o, none⟩)) "Pop").run Yba.prog w = .ok (55, .pointer (some ⟨b, o, none⟩)) w := by kernel_rfl
end Go.Proofs.Ybulkagkq
