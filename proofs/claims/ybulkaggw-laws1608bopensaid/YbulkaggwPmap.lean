import Derived.Test.YbulkaggwBlim
namespace Go.Proofs.Ybulkaggw
open Go.RowKit Go.ChangeMaps

def ent (cb ib i : Nat) : MapEntry := ⟨.pointer (some ⟨cb, i * 7, none⟩), .map (some (ib + i)), i⟩
def ents (cb ib s : Nat) : Nat → List MapEntry
  | 0 => []
  | m + 1 => ent cb ib s :: ents cb ib (s + 1) m

theorem ents_length (cb ib : Nat) : ∀ (m s : Nat), (ents cb ib s m).length = m
  | 0, _ => rfl
  | m + 1, s => by simp [ents, ents_length cb ib m]

theorem ents_snoc (cb ib : Nat) : ∀ (m s : Nat), ents cb ib s (m + 1) = ents cb ib s m ++ [ent cb ib (s + m)]
  | 0, s => rfl
  | m + 1, s => by
    rw [ents, ents_snoc cb ib m (s + 1), ents]
    simp [show s + 1 + m = s + (m + 1) by omega]

theorem eq45 (w : World) (cb x y : Nat) : (Op.equal 45 (.pointer (some ⟨cb, x, none⟩)) (.pointer (some ⟨cb, y, none⟩))).run Yba.prog w = .ok (x == y) w := by
  obtain ⟨i, hi, hz0, hz1, hz2⟩ := info_parts Yba.info48
  have hb : ((⟨cb, x, none⟩ : Addr) == ⟨cb, y, none⟩) = (x == y) := by
    rw [Bool.eq_iff_iff]; simp
  have h : ∀ d : Nat, (Op.equalIn (d + 1) 45 (.pointer (some ⟨cb, x, none⟩)) (.pointer (some ⟨cb, y, none⟩))).run Yba.prog w = .ok (x == y) w := fun d => by
    simp [Op.equalIn, run_underlying Yba.underlying45, sizeOf, typeInfo, hi, hz1, sameAddr, hb]
  simp [Op.equal, Op.maxDepth, h 9999]

theorem ask_none (w : World) (cb ib j : Nat) : ∀ (m s i : Nat), (j < s ∨ s + m ≤ j) → (Instr.findAsking 45 (.pointer (some ⟨cb, j * 7, none⟩)) (ents cb ib s m) i).run Yba.prog w = .ok none w
  | 0, _, _, _ => by simp [ents, Instr.findAsking]
  | m + 1, s, i, h => by
    have hne : (j * 7 == s * 7) = false := by simp; omega
    simp [ents, ent, Instr.findAsking, eq45, hne, ask_none w cb ib j m (s + 1) (i + 1) (by omega)]

theorem ask_some (w : World) (cb ib j : Nat) : ∀ (m s i : Nat), s ≤ j → j < s + m → (Instr.findAsking 45 (.pointer (some ⟨cb, j * 7, none⟩)) (ents cb ib s m) i).run Yba.prog w = .ok (some (i + (j - s), .map (some (ib + j)))) w
  | 0, _, _, h1, h2 => by omega
  | m + 1, s, i, h1, h2 => by
    by_cases e : s = j
    · subst e
      simp [ents, ent, Instr.findAsking, eq45]
    · have hne : (j * 7 == s * 7) = false := by simp; omega
      have := ask_some w cb ib j m (s + 1) (i + 1) (by omega) (by omega)
      rw [show i + 1 + (j - (s + 1)) = i + (j - s) by omega] at this
      simp [ents, ent, Instr.findAsking, eq45, hne, this]

theorem find_ents (w : World) (cb ib j : Nat) (m : Nat) (r : Option (Nat × Value)) (h : (Instr.findAsking 45 (.pointer (some ⟨cb, j * 7, none⟩)) (ents cb ib 0 m) 0).run Yba.prog w = .ok r w) : (Instr.findKey 45 (.pointer (some ⟨cb, j * 7, none⟩)) (ents cb ib 0 m)).run Yba.prog w = .ok r w := by
  cases m with
  | zero =>
    simp [ents, Instr.findAsking] at h
    simp [ents, Instr.findKey, Instr.findNow, run_underlying Yba.underlying45, h]
  | succ m =>
    simp only [Instr.findKey, Sem.run_bind, run_underlying Yba.underlying45, Result.andThen, ents, ent, Instr.findNow, Instr.sameNow]
    simpa [ents, ent] using h

theorem check45 (w : World) (em : Bool) (a : Addr) : (Instr.checkKey em 10000 45 (.pointer (some a))).run Yba.prog w = .ok () w := by
  unfold Instr.checkKey
  simp [run_underlying Yba.underlying45]

theorem upd_run (w : World) (mb cb ib k : Nat) (hb : w.heap[mb]? = some (.map (ents cb ib 0 k).toArray k)) :
    (Instr.mapUpdate 39 (.map (some mb)) (.pointer (some ⟨cb, k * 7, none⟩)) (.map (some (ib + k)))).run Yba.prog w = .ok () (setBlock w mb (.map (ents cb ib 0 (k + 1)).toArray (k + 1))) := by
  have h1 := find_ents w cb ib k k none (ask_none w cb ib k k 0 0 (by omega))
  rw [ents_snoc]
  simp [Instr.mapUpdate, run_underlying Yba.underlying39, MapKept.run_getObj_map hb, check45, h1, MapKept.run_setObj_map _ hb, Result.andThen, setBlock, ent]

theorem look_run (w : World) (mb cb ib n j : Nat) (hj : j < n) (hb : w.heap[mb]? = some (.map (ents cb ib 0 n).toArray n)) :
    (Instr.lookup 39 (.map (some mb)) (.pointer (some ⟨cb, j * 7, none⟩)) true).run Yba.prog w = .ok (.tuple #[.map (some (ib + j)), .bool true]) w := by
  have h1 := find_ents w cb ib j n _ (ask_some w cb ib j n 0 0 (by omega) (by omega))
  simp [Instr.lookup, run_underlying Yba.underlying39, MapKept.run_getObj_map hb, check45, h1, Result.andThen]

theorem len39_run (w : World) (mb cb ib n : Nat) (hb : w.heap[mb]? = some (.map (ents cb ib 0 n).toArray n)) (ty : TypeId) :
    (Builtin.len_ #[39] ty #[.map (some mb)]).run Yba.prog w = .ok (.int .i64 n) w := by
  simp [Builtin.len_, run_underlying Yba.underlying39, MapKept.run_getObj_map hb, goInt, Result.andThen, ents_length]

theorem len43_run (w : World) (mb : Nat) (hb : w.heap[mb]? = some (.map #[] 0)) (ty : TypeId) :
    (Builtin.len_ #[43] ty #[.map (some mb)]).run Yba.prog w = .ok (.int .i64 0) w := by
  simp [Builtin.len_, run_underlying Yba.underlying43, MapKept.run_getObj_map hb, goInt, Result.andThen]
end Go.Proofs.Ybulkaggw
