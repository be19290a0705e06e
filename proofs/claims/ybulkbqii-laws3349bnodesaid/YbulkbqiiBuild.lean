import Derived.Test.YbulkbqiiRows
import Derived.WalkKit
import Derived.Laws.Tables
namespace Go.Proofs.Ybulkbqii
open Go.RowKit

/-- A composite literal of a great struct, as one step: what it builds is told by a closed fact. -/
theorem wpList_built {P : Program} {w : World} {ops : Array Oper} {rest : List Oper} {o : Oper} {a : Act} {Q : Exit → Act → World → Prop} (hgd : o.guard = none) (t : TypeId) (parts : Array (Nat × Operand))
    (ho : o.op = .build t parts) (vals : List (Nat × Value)) (hv : parts.toList.map (fun p => (p.1, a.eval p.2)) = vals) (cells : Array Value) (hb : P.built t vals = some cells)
    (h : wpList P ops Q rest (a.put o.dst (.agg cells)) w) : wpList P ops Q (o :: rest) a w := by
  refine wpList_plain hgd fun K hK => ?_
  have hb' : P.built t (parts.map fun (i, x) => (i, a.eval x)).toList = some cells := by
    rw [Array.toList_map]
    rw [← hb, ← hv]
  have hrun := run_build (P := P) w t (parts.map fun (i, x) => (i, a.eval x)) cells hb'
  unfold Oper.wp
  simp only [execOp, ho]
  simp [hrun, Result.andThen]
  exact hK _ _ h

/-- What '&measurer{runes: rs}' holds. -/
theorem built_runes (g n : Nat) : ∃ M : Array Value, Yba.prog.built 53 [(1, .slice (some ⟨g, 0, none⟩) n n)] = some M ∧ M[1]? = some (.slice (some ⟨g, 0, none⟩) n n) := by
  have h : (Yba.prog.built 53 [(1, .slice (some ⟨g, 0, none⟩) n n)]).map (fun M => M[1]?) = some (some (.slice (some ⟨g, 0, none⟩) n n)) := by kernel_rfl
  obtain ⟨M, hM, h1⟩ := Option.map_eq_some_iff.1 h
  exact ⟨M, hM, h1⟩
/-- What '&measurer{nodes: ns}' holds. -/
theorem built_nodes (g n : Nat) : ∃ M : Array Value, Yba.prog.built 53 [(0, .slice (some ⟨g, 0, none⟩) n n)] = some M ∧ M[0]? = some (.slice (some ⟨g, 0, none⟩) n n) := by
  have h : (Yba.prog.built 53 [(0, .slice (some ⟨g, 0, none⟩) n n)]).map (fun M => M[0]?) = some (some (.slice (some ⟨g, 0, none⟩) n n)) := by kernel_rfl
  obtain ⟨M, hM, h1⟩ := Option.map_eq_some_iff.1 h
  exact ⟨M, hM, h1⟩
end Go.Proofs.Ybulkbqii
