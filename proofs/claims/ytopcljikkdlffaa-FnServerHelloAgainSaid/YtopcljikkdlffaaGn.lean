/- General words on structs that are handed about by value. No statement of the seat is proved here. -/
import Derived.Test.YtopcljikkdlffaaBase
import Derived.Laws.Rows
import Derived.Laws.Tables
import Derived.Laws.ResultCell
import Derived.Deep.WholeRow
namespace Go.Proofs.Ytopcljikkdlffaa
open Go.RowKit

/-- A struct is read, in a region that draws its order. -/
theorem wpStill_load_row {P : Program} {ops : Array Oper} {rest : List Oper} {o : Oper} {a : Act} {w : World} {Q : Act → Prop} (hgd : o.guard = none) (ty : TypeId) (x : Operand) (ho : o.op = .load ty x)
    (g : Nat) (hx : a.eval x = .pointer (some ⟨g, 0, none⟩)) (t : TypeId) (cs : Array Value) (fr : Nat × Nat) (d : TypeDesc) (hg : w.heap[g]? = some (.cells cs t fr))
    (hu : P.underlying ty = some d) (hd : (match d with | .struct _ | .array _ _ => true | _ => false) = true) (hi : (P.info? ty).map (·.size) = some cs.size)
    (h : wpStill P ops w Q rest (a.put o.dst (.agg cs))) : wpStill P ops w Q (o :: rest) a := by
  refine wpStill_step fun K hK => ?_
  simp only [Region.wanted, hgd, if_true]
  unfold Oper.still execOp
  simp only [ho, hx, Instr.loadAt, Instr.sureAddr, Sem.run_bind, Sem.run_pure, Result.andThen_ok, run_loadVar_row w g t ty cs fr d hg hu hd hi]
  exact ⟨rfl, hK _ h⟩

/-- A struct is read, as an equation. -/
theorem exec_load_row {P : Program} {ρ : Operand → Value} {o : Oper} {w : World} (ty : TypeId) (x : Operand) (ho : o.op = .load ty x)
    (g : Nat) (hx : ρ x = .pointer (some ⟨g, 0, none⟩)) (t : TypeId) (cs : Array Value) (fr : Nat × Nat) (d : TypeDesc) (hg : w.heap[g]? = some (.cells cs t fr))
    (hu : P.underlying ty = some d) (hd : (match d with | .struct _ | .array _ _ => true | _ => false) = true) (hi : (P.info? ty).map (·.size) = some cs.size) :
    (execOp ρ o).run P w = .ok (.value (.agg cs)) w := by
  unfold execOp
  simp only [ho, hx, Instr.loadAt, Instr.sureAddr, Sem.run_bind, Sem.run_pure, Result.andThen_ok, run_loadVar_row w g t ty cs fr d hg hu hd hi]

/-- A struct and one value more are handed back. -/
theorem results_row_tmp {P : Program} {fn : Func} {p u : Tmp} {ty : TypeId} (h : fn.results = #[.cell p ty, .tmp u]) (tmps : Array Value) (w : World) (g : Nat) (t : TypeId) (cs : Array Value) (fr : Nat × Nat) (d : TypeDesc)
    (hp : tmps.getD p undef = .pointer (some ⟨g, 0, none⟩)) (hg : w.heap[g]? = some (.cells cs t fr))
    (hu : P.underlying ty = some d) (hd : (match d with | .struct _ | .array _ _ => true | _ => false) = true) (hi : (P.info? ty).map (·.size) = some cs.size) :
    (results fn tmps).run P w = .ok (.tuple #[.agg cs, tmps.getD u undef]) w := by
  rw [results_cell_tmp h, hp]
  simp [asAddr, run_loadVar_row w g t ty cs fr d hg hu hd hi, Result.andThen]

theorem ret_row_tmp {P : Program} {fn : Func} {R : Ending → World → Prop} {a : Act} {w : World} {p u : Tmp} {ty : TypeId} (v : Value) (h : fn.results = #[.cell p ty, .tmp u]) (g : Nat) (t : TypeId) (cs : Array Value) (fr : Nat × Nat) (d : TypeDesc)
    (hp : a.tmps.getD p undef = .pointer (some ⟨g, 0, none⟩)) (hv : a.tmps.getD u undef = v) (hg : w.heap[g]? = some (.cells cs t fr))
    (hu : P.underlying ty = some d) (hd : (match d with | .struct _ | .array _ _ => true | _ => false) = true) (hi : (P.info? ty).map (·.size) = some cs.size) (hdf : a.defers = [])
    (hR : R (.returned (.tuple #[.agg cs, v])) w) : bodyPost P fn R .ret a w :=
  bodyPost_ret (by rw [results_row_tmp h _ _ g t cs fr d hp hg hu hd hi, hv]) hdf hR

theorem exec_build {P : Program} {o : Oper} {a : Act} {w : World} (t : TypeId) (parts : Array (Nat × Operand)) (cells : Array Value) (ho : o.op = .build t parts)
    (hf : P.built t (parts.map fun (i, x) => (i, a.eval x)).toList = some cells) : (execOp a.eval o).run P w = .ok (.value (.agg cells)) w := by
  unfold execOp
  simp only [ho, Sem.run_bind, run_build w t _ cells hf, Result.andThen_ok]
  rfl

/-- Reads and reckonings, one behind the other. -/
def stl (P : Program) (w : World) (Q : Act → Prop) : List Oper → Act → Prop
  | [], a => Q a
  | o :: r, a => ∃ v, (execOp a.eval o).run P w = .ok (.value v) w ∧ stl P w Q r (a.put o.dst v)

theorem stl_still {P : Program} {ops : Array Oper} {w : World} {Q : Act → Prop} : ∀ {l : List Oper} {a : Act}, l.all (fun o => o.guard.isNone) = true → stl P w Q l a → wpStill P ops w Q l a
  | [], _, _, h => h
  | o :: r, a, hg, ⟨v, hr, h⟩ => by
    simp only [List.all_cons, Bool.and_eq_true, Option.isNone_iff_eq_none] at hg
    refine wpStill_step fun K hK => ?_
    simp only [Region.wanted, hg.1, if_true]
    unfold Oper.still
    rw [hr]
    exact ⟨rfl, hK _ (stl_still hg.2 h)⟩

end Go.Proofs.Ytopcljikkdlffaa
