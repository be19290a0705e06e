import Derived.Test.YbulkbqiwResumed
namespace Go.Proofs.Ybulkbqiw
open Go.RowKit Go.MuLone
set_option linter.unusedVariables false

/-- The number that a session expects next behind a resume. -/
def nextOf (hA : Bool) (inc heard : List Int) (nx first : Int) : Int := if hA = true ∧ inc = heard then nx else first

theorem resumed_any (b : Nat) (own heard inc : List Int) (sent nx cur ak first : Int) (hA rs : Bool) (R : Array Value) (w : World) (hO : Inc own) (hH : Inc heard) (hI : Inc inc)
    (hS : Sess 38 w b own 0 sent heard hA nx cur rs ak) (hR : R.toList = bv inc ++ [.int .u64 first]) :
    Calls Yba.prog 4 #[.pointer (some ⟨b, 0, none⟩), .agg R] w fun e w' => e = .returned (.tuple #[]) ∧ Sess 38 w' b own 0 sent inc true (nextOf hA inc heard nx first) cur true first ∧ Turned b w w' := by
  cases hA with
  | false =>
    have e : nextOf false inc heard nx first = first := by simp [nextOf]
    rw [e]
    exact resumed_first b own heard inc sent nx cur ak first rs R w hO hH hI hS hR
  | true =>
    by_cases h : inc = heard
    · have e : nextOf true inc heard nx first = nx := by simp [nextOf, h]
      rw [e]
      exact resumed_same b own heard inc sent nx cur ak first rs R w hO hH hI h hS hR
    · have e : nextOf true inc heard nx first = first := by simp [nextOf, h]
      rw [e]
      exact resumed_new b own heard inc sent nx cur ak first rs R w hO hH hI h hS hR

/-- A whole array loaded out of the middle of a block, guarded or not, in a plain region. -/
theorem wpList_load_g {P : Program} {ops : Array Oper} {rest : List Oper} {op : Oper} {a : Act} {w : World} {Q : Exit → Act → World → Prop} (hw : Region.wanted op (yielded ops a.tmps) = true) (ty : TypeId) (x : Operand) (ho : op.op = .load ty x)
    (b o : Nat) (hx : a.eval x = .pointer (some ⟨b, o, none⟩)) (cs : List Value) (d : TypeDesc) (hc : w.rangeAt b o cs)
    (hu : P.underlying ty = some d) (hd : d.isRow = true) (hi : (P.info? ty).map (·.size) = some cs.length)
    (h : wpList P ops Q rest (a.put op.dst (.agg cs.toArray)) w) : wpList P ops Q (op :: rest) a w :=
  wpList_step fun _ hK => by rw [if_pos hw]; exact wp_load_mid ty x ho b o hx cs d hc hu hd hi (hK _ _ h)

/-- A composite literal, as one step. -/
theorem wpList_built {P : Program} {w : World} {ops : Array Oper} {rest : List Oper} {o : Oper} {a : Act} {Q : Exit → Act → World → Prop} (hgd : o.guard = none) (t : TypeId) (parts : Array (Nat × Operand))
    (ho : o.op = .build t parts) (vals : List (Nat × Value)) (hv : parts.toList.map (fun p => (p.1, a.eval p.2)) = vals) (cells : Array Value) (hb : P.built t vals = some cells)
    (h : wpList P ops Q rest (a.put o.dst (.agg cells)) w) : wpList P ops Q (o :: rest) a w := by
  refine wpList_plain hgd fun K hK => ?_
  have hb' : P.built t (parts.map fun (i, x) => (i, a.eval x)).toList = some cells := by
    rw [Array.toList_map]
    rw [← hb, ← hv]
  have hrun := run_build (P := P) w t (parts.map fun (i, x) => (i, a.eval x)) cells hb'
  unfold Oper.wp
  simp only [execOp, ho]
  simp [hrun, Result.andThen]
  exact hK _ _ h

theorem built_sess (own heard : List Int) (sent nx cur ak : Int) (hA rs : Bool) (hO : Inc own) (hH : Inc heard) :
    Yba.prog.built 38 [(0, .agg (bv own).toArray), (6, .agg (bv heard).toArray), (7, .bool hA), (8, .int .u64 nx), (3, .int .u64 sent), (9, .int .u64 cur), (10, .bool rs), (11, .int .u64 ak)] = some (sessCells own 0 sent heard hA nx cur rs ak).toArray := by
  obtain ⟨a0, a1, a2, a3, a4, a5, a6, a7, a8, a9, a10, a11, a12, a13, a14, a15, rfl⟩ := sixteen hO
  obtain ⟨b0, b1, b2, b3, b4, b5, b6, b7, b8, b9, b10, b11, b12, b13, b14, b15, rfl⟩ := sixteen hH
  kernel_rfl
theorem built_resume (inc : List Int) (first : Int) (hI : Inc inc) : Yba.prog.built 41 [(0, .agg (bv inc).toArray), (1, .int .u64 first)] = some (bv inc ++ [Value.int .u64 first]).toArray := by
  obtain ⟨a0, a1, a2, a3, a4, a5, a6, a7, a8, a9, a10, a11, a12, a13, a14, a15, rfl⟩ := sixteen hI
  kernel_rfl

/-- The law's argument, as cells. -/
def argCells (own heard : List Int) (hA : Bool) (nx sent cur : Int) (rs : Bool) (ak : Int) (rinc : List Int) (first : Int) (same : Bool) : List Value :=
  bv own ++ (bv heard ++ ([.bool hA, .int .u64 nx, .int .u64 sent, .int .u64 cur, .bool rs, .int .u64 ak] ++ (bv rinc ++ [.int .u64 first, .bool same])))

def Arg (w : World) (b : Nat) (own heard : List Int) (hA : Bool) (nx sent cur : Int) (rs : Bool) (ak : Int) (rinc : List Int) (first : Int) (same : Bool) : Prop :=
  w.heap[b]? = some (.cells (argCells own heard hA nx sent cur rs ak rinc first same).toArray 25 (0, 0))

section
variable {w : World} {b : Nat} {own heard rinc : List Int} {sent nx cur ak first : Int} {hA rs same : Bool}
theorem Arg.cell (h : Arg w b own heard hA nx sent cur rs ak rinc first same) (o : Nat) : w.cell? ⟨b, o, none⟩ = (argCells own heard hA nx sent cur rs ak rinc first same)[o]? := by
  unfold Arg at h
  simp [World.cell?, h]
set_option linter.unusedSimpArgs false in
theorem Arg.cells (h : Arg w b own heard hA nx sent cur rs ak rinc first same) (hO : Inc own) (hH : Inc heard) (hR : Inc rinc) :
    w.cell? ⟨b, 32, none⟩ = some (.bool hA) ∧ w.cell? ⟨b, 33, none⟩ = some (.int .u64 nx) ∧ w.cell? ⟨b, 34, none⟩ = some (.int .u64 sent) ∧ w.cell? ⟨b, 35, none⟩ = some (.int .u64 cur) ∧ w.cell? ⟨b, 36, none⟩ = some (.bool rs) ∧ w.cell? ⟨b, 37, none⟩ = some (.int .u64 ak) ∧
      w.cell? ⟨b, 54, none⟩ = some (.int .u64 first) ∧ w.cell? ⟨b, 55, none⟩ = some (.bool same) := by
  simp only [h.cell]
  refine ⟨?_, ?_, ?_, ?_, ?_, ?_, ?_, ?_⟩ <;> simp [argCells, List.getElem?_append, bv_len hO, bv_len hH, bv_len hR]
theorem Arg.ranges (h : Arg w b own heard hA nx sent cur rs ak rinc first same) (hO : Inc own) (hH : Inc heard) (hR : Inc rinc) : w.rangeAt b 0 (bv own) ∧ w.rangeAt b 16 (bv heard) ∧ w.rangeAt b 38 (bv rinc) := by
  refine ⟨?_, ?_, ?_⟩
  · intro j v hv
    have hj := (List.getElem?_eq_some_iff.1 hv).1
    rw [h.cell, Nat.zero_add]
    unfold argCells
    rw [List.getElem?_append_left hj]
    exact hv
  · intro j v hv
    have hj := (List.getElem?_eq_some_iff.1 hv).1
    rw [h.cell]
    unfold argCells
    rw [List.getElem?_append_right (by rw [bv_len hO]; omega), bv_len hO, show 16 + j - 16 = j by omega, List.getElem?_append_left hj]
    exact hv
  · intro j v hv
    have hj := (List.getElem?_eq_some_iff.1 hv).1
    rw [h.cell]
    unfold argCells
    rw [List.getElem?_append_right (by rw [bv_len hO]; omega), bv_len hO, List.getElem?_append_right (by rw [bv_len hH]; omega), bv_len hH, List.getElem?_append_right (by simp; omega), List.getElem?_append_left (by simp; omega)]
    simp only [List.length_cons, List.length_nil]
    rw [show 38 + j - 16 - 16 - (0 + 1 + 1 + 1 + 1 + 1 + 1) = j by omega]
    exact hv
end
end Go.Proofs.Ybulkbqiw
