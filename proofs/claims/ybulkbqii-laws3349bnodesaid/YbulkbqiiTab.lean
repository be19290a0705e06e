import Derived.Test.YbulkbqiiCls
import Derived.Laws.CopyOwn
import Derived.Deep.OwnRows
import Derived.Laws.Tables
namespace Go.Proofs.Ybulkbqii
open Go.RowKit
set_option linter.unusedVariables false

/-- altClassLike where no view is set: what classLike says of the node. -/
theorem acl_node (bm ba g c k : Nat) (op at' en : Int) (w : World) (hk : (k : Int) < (c : Int)) (h1 : -2147483648 ≤ at') (h2 : at' ≤ 2147483647) (h3 : -2147483648 ≤ en) (h4 : en ≤ 2147483647)
    (a0 : w.cell? ⟨ba, 0, none⟩ = some (.int .i32 k)) (a1 : w.cell? ⟨ba, 1, none⟩ = some (.pointer none))
    (m0 : w.cell? ⟨bm, 0, none⟩ = some (.slice (some ⟨g, 0, none⟩) c c))
    (c13 : w.cell? ⟨g, k * 19 + 13, none⟩ = some (.int .u8 op)) (c3 : w.cell? ⟨g, k * 19 + 3, none⟩ = some (.int .i32 at')) (c4 : w.cell? ⟨g, k * 19 + 4, none⟩ = some (.int .i32 en)) :
    Calls Yba.prog 5 #[.pointer (some ⟨bm, 0, none⟩), .pointer (some ⟨ba, 0, none⟩)] w fun e w' => e = .returned (.bool (clsB op at' en)) ∧ ∃ n, w' = w.drewN n := by
  go_enter Yba.func5, Yba.ntmps5
  go_wp2
  go_quiet ((go_at_call 7; exact Calls.quiet_of (cl_any g (k * 19) op at' en _ h1 h2 h3 h4 (by simpa using c13) (by simpa using c3) (by simpa using c4))))
  go_wp2
  go_ret
  exact ⟨rfl, _, rfl⟩

/-- A struct stored into the middle of a row, as one step. -/
theorem wpList_store_at {P : Program} {w : World} {ops : Array Oper} {rest : List Oper} {o : Oper} {a : Act} {Q : Exit → Act → World → Prop} (hgd : o.guard = none) (ty : TypeId) (x y : Operand) (ho : o.op = .store ty x y)
    (g off : Nat) (cells : Array Value) (hx : a.eval x = .pointer (some ⟨g, off, none⟩)) (hy : a.eval y = .agg cells)
    (t : TypeId) (cur : Array Value) (hg : w.heap[g]? = some (.cells cur t (0, 0))) (hi : (P.info? ty).map (·.size) = some cells.size) (hfit : off + cells.size ≤ cur.size) (h1 : cells.all (·.oneCell') = true)
    (h : wpList P ops Q rest (a.put o.dst undef) (w.setRow g (cur.toList.take off ++ cells.toList ++ cur.toList.drop (off + cells.size)).toArray)) : wpList P ops Q (o :: rest) a w := by
  refine wpList_plain hgd fun K hK => ?_
  have hst := run_storeCells_at P g off t cells.toList 0 cur w hg (by simpa using hfit) (fun v hv => (Array.all_eq_true_iff_forall_mem.1 h1) v (by simpa using hv))
  have hvar : (storeVar ty ⟨g, off, none⟩ (.agg cells)).run P w = .ok () (w.setRow g (cur.toList.take off ++ cells.toList ++ cur.toList.drop (off + cells.size)).toArray) := by
    cases hq : P.info? ty with
    | none => simp [hq] at hi
    | some i =>
      have hs : cells.size = i.size := by simp [hq] at hi; omega
      simp only [Nat.add_zero, Array.length_toList] at hst
      simp [storeVar, sizeOf, typeInfo, hq, Value.cells, hs]
      rw [hst, hs]
      simp
  unfold Oper.wp execOp
  simp only [ho, hx, hy, Instr.storeAt, Instr.sureAddr, Sem.run_bind, Sem.run_pure, Result.andThen_ok, hvar]
  exact hK _ _ h

/-- What a node's cells hold. -/
def nodeCells (op at' en : Int) : Array Value := #[.int .i64 0, .int .i64 0, .int .i64 0, .int .i32 at', .int .i32 en, .int .i32 (-1), .int .i32 (-1), .int .i32 0, .int .i32 0, .int .i16 0, .int .i16 0, .int .i16 0, .int .i16 0, .int .u8 op, .bool false, .bool false, .bool false, .bool false, .bool false]

theorem built_node (op at' en : Int) : Yba.prog.built 30 [(13, .int .u8 op), (3, .int .i32 at'), (4, .int .i32 en), (5, .int .i32 (-1)), (6, .int .i32 (-1))] = some (nodeCells op at' en) := by kernel_rfl
theorem nodeCells_one (op at' en : Int) : (nodeCells op at' en).all (·.oneCell') = true := by kernel_rfl
theorem Yba.size30 : (Yba.prog.info? 30).map (·.size) = some 19 := by kernel_rfl

/-- BLOCK g IS THE TABLE OF NODES: of its len + 1 nodes the first k hold what F says. -/
def Tab (w : World) (g len : Nat) (F : Nat → Int × Int × Int) (k : Nat) : Prop :=
  ∃ c : Array Value, w.heap[g]? = some (.cells c 30 (0, 0)) ∧ c.size = (len + 1) * 19 ∧
    ∀ i, i < k → c[i * 19 + 13]? = some (.int .u8 (F i).1) ∧ c[i * 19 + 3]? = some (.int .i32 (F i).2.1) ∧ c[i * 19 + 4]? = some (.int .i32 (F i).2.2)

theorem Tab.of_block {w w' : World} {g len k : Nat} {F : Nat → Int × Int × Int} (h : Tab w g len F k) (e : w'.heap[g]? = w.heap[g]?) : Tab w' g len F k := by
  obtain ⟨c, hb, hn, hc⟩ := h
  exact ⟨c, e.trans hb, hn, hc⟩

theorem Tab.cells {w : World} {g len k i : Nat} {F : Nat → Int × Int × Int} (h : Tab w g len F k) (hi : i < k) :
    w.cell? ⟨g, i * 19 + 13, none⟩ = some (.int .u8 (F i).1) ∧ w.cell? ⟨g, i * 19 + 3, none⟩ = some (.int .i32 (F i).2.1) ∧ w.cell? ⟨g, i * 19 + 4, none⟩ = some (.int .i32 (F i).2.2) := by
  obtain ⟨c, hb, _, hc⟩ := h
  obtain ⟨h1, h2, h3⟩ := hc i hi
  simp [World.cell?, hb, h1, h2, h3]

theorem Tab.store {w : World} {g len k : Nat} {F : Nat → Int × Int × Int} {c : Array Value} (hb : w.heap[g]? = some (.cells c 30 (0, 0))) (hn : c.size = (len + 1) * 19)
    (hc : ∀ i, i < k → c[i * 19 + 13]? = some (.int .u8 (F i).1) ∧ c[i * 19 + 3]? = some (.int .i32 (F i).2.1) ∧ c[i * 19 + 4]? = some (.int .i32 (F i).2.2)) (hk : k ≤ len) {op at' en : Int} (hF : F k = (op, at', en)) :
    Tab (w.setRow g (c.toList.take (k * 19) ++ (nodeCells op at' en).toList ++ c.toList.drop (k * 19 + (nodeCells op at' en).size)).toArray) g len F (k + 1) := by
  have hl : (c.toList.take (k * 19)).length = k * 19 := by simp; omega
  have hs : (nodeCells op at' en).size = 19 := rfl
  have hsl : (nodeCells op at' en).toList.length = 19 := rfl
  refine ⟨_, setRow_heap _ _ _ _ _ _ hb, ?_, fun i hi => ?_⟩
  · simp [hs]; omega
  · have get : ∀ j, j < 19 → (c.toList.take (k * 19) ++ (nodeCells op at' en).toList ++ c.toList.drop (k * 19 + (nodeCells op at' en).size)).toArray[i * 19 + j]? = if i = k then (nodeCells op at' en)[j]? else c[i * 19 + j]? := by
      intro j hj
      rw [List.getElem?_toArray]
      by_cases e : i = k
      · subst e
        rw [if_pos rfl, List.getElem?_append_left (by rw [List.length_append, hl, hsl]; omega), List.getElem?_append_right (by omega), hl]
        rw [show i * 19 + j - i * 19 = j by omega, Array.getElem?_toList]
      · have hik : i < k := by omega
        have h19 : i * 19 + 19 ≤ k * 19 := by omega
        rw [if_neg e, List.append_assoc, List.getElem?_append_left (by omega), List.getElem?_take_of_lt (by omega), Array.getElem?_toList]
    rw [get 13 (by omega), get 3 (by omega), get 4 (by omega)]
    by_cases e : i = k
    · subst e
      simp [nodeCells, hF]
    · simp only [if_neg e]
      exact hc i (by omega)
end Go.Proofs.Ybulkbqii
