/- A part of a block loaded, and stored, as one array. -/
import Derived.Laws.CopyOwn
import Derived.Laws.Tables
import Derived.Test.YtajeinkkfggcbaaGreatDoorMem
namespace Go.Proofs.YtajeinkkfggcbaaGreatDoor
open Go.RowKit

section
variable {P : Program}
theorem run_loadVar_part (w : World) (g o : Nat) (ty : TypeId) (cs : List Value) (d : TypeDesc) (hc : ∀ j v, cs[j]? = some v → w.cell? ⟨g, o + j, none⟩ = some v)
    (hu : P.underlying ty = some d) (hd : (match d with | .struct _ | .array _ _ => true | _ => false) = true) (hi : (P.info? ty).map (·.size) = some cs.length) :
    (loadVar ty ⟨g, o, none⟩).run P w = .ok (.agg cs.toArray) w := by
  have hl : (loadCells ⟨g, o, none⟩ cs.length).run P w = .ok cs.toArray w :=
    run_loadCells_list (P := P) w ⟨g, o, none⟩ cs (fun j v hv => by
      have hadd : (⟨g, o, none⟩ : Addr).add j = ⟨g, o + j, none⟩ := by unfold Addr.add; split <;> simp_all
      rw [hadd]
      exact hc j v hv)
  cases hq : P.info? ty with
  | none => simp [hq] at hi
  | some i =>
    have hs : i.size = cs.length := by simpa [hq] using hi
    have hagg : (isAgg ty).run P w = .ok true w := by
      unfold isAgg
      rw [Sem.run_bind, run_underlying hu w]
      cases d <;> simp_all
    simp [loadVar, Sem.run_bind, hagg, sizeOf, typeInfo, hq, hs, hl]
theorem wpList_load_part {ops : Array Oper} {rest : List Oper} {op : Oper} {a : Act} {w : World} {Q : Exit → Act → World → Prop} (hgd : op.guard = none) (ty : TypeId) (x : Operand) (ho : op.op = .load ty x)
    (g o : Nat) (hx : a.eval x = .pointer (some ⟨g, o, none⟩)) (cs : List Value) (d : TypeDesc) (hc : ∀ j v, cs[j]? = some v → w.cell? ⟨g, o + j, none⟩ = some v)
    (hu : P.underlying ty = some d) (hd : (match d with | .struct _ | .array _ _ => true | _ => false) = true) (hi : (P.info? ty).map (·.size) = some cs.length)
    (h : wpList P ops Q rest (a.put op.dst (.agg cs.toArray)) w) : wpList P ops Q (op :: rest) a w :=
  wpList_plain hgd fun K hK => by
    unfold Oper.wp execOp
    simp only [ho, hx, Instr.loadAt, Instr.sureAddr, Sem.run_bind, Sem.run_pure, Result.andThen_ok, run_loadVar_part w g o ty cs d hc hu hd hi]
    exact hK _ _ h
theorem run_storeVar_part (w : World) (g o : Nat) (t ty : TypeId) (cur : Array Value) (cs : Array Value) (hg : w.heap[g]? = some (.cells cur t (0, 0))) (hi : (P.info? ty).map (·.size) = some cs.size)
    (hfit : o + cs.size ≤ cur.size) (h1 : cs.all (·.oneCell') = true) :
    (storeVar ty ⟨g, o, none⟩ (.agg cs)).run P w = .ok () (w.setRow g (splice cur.toList o cs.toList).toArray) := by
  have := run_storeCells_at P g o t cs.toList 0 cur w hg (by simpa using hfit) (fun v hv => (Array.all_eq_true_iff_forall_mem.1 h1) v (by simpa using hv))
  cases hq : P.info? ty with
  | none => simp [hq] at hi
  | some i =>
    have hs : cs.size = i.size := by simp [hq] at hi; omega
    simp [storeVar, sizeOf, typeInfo, hq, Value.cells, hs, this, splice]
theorem wpList_store_part {ops : Array Oper} {rest : List Oper} {op : Oper} {a : Act} {w : World} {Q : Exit → Act → World → Prop} (hgd : op.guard = none) (ty : TypeId) (x y : Operand) (ho : op.op = .store ty x y)
    (g o : Nat) (cs : Array Value) (hx : a.eval x = .pointer (some ⟨g, o, none⟩)) (hy : a.eval y = .agg cs)
    (t : TypeId) (cur : Array Value) (hg : w.heap[g]? = some (.cells cur t (0, 0))) (hi : (P.info? ty).map (·.size) = some cs.size)
    (hfit : o + cs.size ≤ cur.size) (h1 : cs.all (·.oneCell') = true)
    (h : wpList P ops Q rest (a.put op.dst undef) (w.setRow g (splice cur.toList o cs.toList).toArray)) : wpList P ops Q (op :: rest) a w :=
  wpList_plain hgd fun K hK => by
    unfold Oper.wp execOp
    simp only [ho, hx, hy, Instr.storeAt, Instr.sureAddr, Sem.run_bind, Sem.run_pure, Result.andThen_ok, run_storeVar_part w g o t ty cur cs hg hi hfit h1]
    exact hK _ _ h
end
end Go.Proofs.YtajeinkkfggcbaaGreatDoor
