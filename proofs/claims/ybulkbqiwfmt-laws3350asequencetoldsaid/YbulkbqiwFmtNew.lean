import Derived.Test.YbulkbqiwFmtCalls
import Derived.Deep.CutRange
namespace Go.Proofs.YbulkbqiwFmt
open Go.RowKit Go.MuLone
set_option linter.unusedVariables false

theorem forget {P : Program} {f : Nat} {args : Array Value} {Q : Ending → World → Prop} {W : World} (R : World → Prop) (h : R W) (k : ∀ W, R W → Calls P f args W Q) : Calls P f args W Q := k W h
theorem forgetL {P : Program} {ops : Array Oper} {rest : List Oper} {Q : Exit → Act → World → Prop} {a : Act} {W : World} (R : World → Prop) (h : R W) (k : ∀ W, R W → wpList P ops Q rest a W) : wpList P ops Q rest a W := k W h
theorem rangeAt_of_heap {w w' : World} {b o : Nat} {cs : List Value} (h : w.rangeAt b o cs) (e : w'.heap[b]? = w.heap[b]?) : w'.rangeAt b o cs := fun j v hv => (World.cell?_of_block (w := w) (w' := w') e).trans (h j v hv)
theorem there_new (w : World) (c : Array Value) (t : TypeId) (n : Nat) (h : c.size = n) : (w.alloc (.cells c t)).there w.heap.size 0 n := fun j hj => by
  have hb : (w.alloc (.cells c t)).heap[w.heap.size]? = some (.cells c t (0, 0)) := Deep.blk_alloc_new _ _
  have hj' : 0 + j < c.size := by omega
  rw [cell_of_row _ _ _ c t (0, 0) hb]
  refine ⟨by simp at hj'; simp [hj'], ?_⟩
  unfold World.frozen?
  simp only [hb]
  simp
theorem there_new' (w : World) (c : Array Value) (t : TypeId) (n b : Nat) (h : c.size = n) (hb : b = w.heap.size) : (w.alloc (.cells c t)).there b 0 n := by subst hb; exact there_new w c t n h
theorem range_new (w : World) (cs : List Value) (t : TypeId) : (w.alloc (.cells cs.toArray t)).rangeAt w.heap.size 0 cs := fun j v hv => by
  have hb : (w.alloc (.cells cs.toArray t)).heap[w.heap.size]? = some (.cells cs.toArray t (0, 0)) := Deep.blk_alloc_new _ _
  rw [cell_of_row _ _ _ cs.toArray t (0, 0) hb]
  simpa using hv
theorem size_setCells (b : Nat) : ∀ (vs : List Value) (o : Nat) (w : World), (w.setCells b o vs).heap.size = w.heap.size
  | [], _, _ => rfl
  | v :: r, o, w => by rw [World.setCells, size_setCells b r (o + 1)]; simp
theorem below_setCells {B b : Nat} (hB : B ≤ b) : ∀ (vs : List Value) (o : Nat) {w w' : World}, Below B w w' → Below B w (w'.setCells b o vs)
  | [], _, _, _, h => h
  | v :: r, o, _, _, h => below_setCells hB r (o + 1) (h.setCell hB v)
theorem heap_setCells {b k : Nat} (hk : k ≠ b) : ∀ (vs : List Value) (o : Nat) (w : World), (w.setCells b o vs).heap[k]? = w.heap[k]?
  | [], _, _ => rfl
  | v :: r, o, w => by rw [World.setCells, heap_setCells hk r (o + 1)]; exact Below.heap_setCell _ _ _ _ hk

/-- A composite literal, as one step. -/
theorem wpList_built {P : Program} {w : World} {ops : Array Oper} {rest : List Oper} {o : Oper} {a : Act} {Q : Exit → Act → World → Prop} (hgd : o.guard = none) (t : TypeId) (parts : Array (Nat × Operand))
    (ho : o.op = .build t parts) (vals : List (Nat × Value)) (hv : parts.toList.map (fun p => (p.1, a.eval p.2)) = vals) (cells : Array Value) (hb : P.built t vals = some cells)
    (h : wpList P ops Q rest (a.put o.dst (.agg cells)) w) : wpList P ops Q (o :: rest) a w := by
  refine wpList_plain hgd fun K hK => ?_
  have hb' : P.built t (parts.map fun (i, x) => (i, a.eval x)).toList = some cells := by
    rw [Array.toList_map]
    rw [← hb, ← hv]
  have hrun := run_build (P := P) w t (parts.map fun (i, x) => (i, a.eval x)) cells hb'
  unfold Oper.wp
  simp only [execOp, ho]
  simp [hrun, Result.andThen]
  exact hK _ _ h

/-- Sixteen zeros. -/
def zeros : List Int := [0, 0, 0, 0, 0, 0, 0, 0, 0, 0, 0, 0, 0, 0, 0, 0]
theorem inc_zeros : Inc zeros := ⟨rfl, by decide⟩

theorem built_new (own : List Int) (hO : Inc own) : Ybaf.prog.built 52 [(0, .agg (bv own).toArray), (1, .nilFunc)] = some (sessCells own 0 0 zeros false 0 0 false 0).toArray := by
  obtain ⟨a0, a1, a2, a3, a4, a5, a6, a7, a8, a9, a10, a11, a12, a13, a14, a15, rfl⟩ := sixteen hO
  kernel_rfl
theorem built_resume (inc : List Int) (first : Int) (hI : Inc inc) : Ybaf.prog.built 29 [(0, .agg (bv inc).toArray), (1, .int .u64 first)] = some (bv inc ++ [Value.int .u64 first]).toArray := by
  obtain ⟨a0, a1, a2, a3, a4, a5, a6, a7, a8, a9, a10, a11, a12, a13, a14, a15, rfl⟩ := sixteen hI
  kernel_rfl

/-- NewSession, no release function. -/
theorem new_any (own : List Int) (Z : List Value) (w : World) (hO : Inc own) (hZ : Z = bv own) :
    Calls Ybaf.prog 4 #[.agg Z.toArray, .nilFunc] w fun e w' => e = .returned (.pointer (some ⟨w.heap.size + 1, 0, none⟩)) ∧ Sess 52 w' (w.heap.size + 1) own 0 0 zeros false 0 0 false 0 ∧ Below w.heap.size w w' ∧ w'.heap.size = w.heap.size + 2 := by
  have q0 : (w.alloc (.cells Z.toArray 24)).rangeAt w.heap.size 0 Z := range_new _ _ _
  have jZ : (Ybaf.prog.info? 24).map (·.size) = some Z.length := by rw [hZ, bv_len hO]; exact Ybaf.size26
  obtain ⟨M, hM, hM'⟩ : ∃ M, Ybaf.prog.built 52 [(0, .agg Z.toArray), (1, .nilFunc)] = some M ∧ M = (sessCells own 0 0 zeros false 0 0 false 0).toArray := ⟨_, by rw [hZ]; exact built_new own hO, rfl⟩
  have HM : Hid (M = (sessCells own 0 0 zeros false 0 0 false 0).toArray) := hM'
  have HZ : Hid (Z = bv own) := hZ
  clear hM' hZ
  go_enter Ybaf.func4, Ybaf.ntmps4
  go_wp2_with (first
    | refine wpList_load_mid rfl 24 (.tmp 2) rfl w.heap.size 0 rfl Z _ q0 Ybaf.underlying24 rfl jZ ?_
    | refine wpList_built rfl 52 #[(0, .tmp 5), (1, .tmp 6)] rfl [(0, .agg Z.toArray), (1, .nilFunc)] (by simp [Act.eval]) M hM ?_)
  go_ret
  refine ⟨rfl, ?_, ((Below.refl _ _).alloc (Nat.le_refl _) _).alloc (by simp) _, by simp⟩
  rw [HM.out]
  have := Deep.blk_alloc_new (w.alloc (.cells Z.toArray 24)) (.cells (sessCells own 0 0 zeros false 0 0 false 0).toArray 52)
  have hs : (w.alloc (.cells Z.toArray 24)).heap.size = w.heap.size + 1 := by simp
  rw [hs] at this
  exact this
end Go.Proofs.YbulkbqiwFmt
