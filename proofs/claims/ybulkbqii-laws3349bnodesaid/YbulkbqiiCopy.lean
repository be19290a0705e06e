import Derived.Test.YbulkbqiiRows
import Derived.WalkKit
import Derived.Below
import Derived.Laws.CopyOwn
import Derived.Deep.OwnRows
namespace Go.Proofs.Ybulkbqii
open Go.RowKit

theorem Yba.info21 : (Yba.prog.info? 21).map (fun i => (i.zero, i.size, i.bytes)) = some (some (.int .i32 0), 1, 4) := by kernel_rfl
theorem Yba.size21 : (Yba.prog.info? 21).map (·.size) = some 1 := by kernel_rfl

/-- What 'rs := make([]rune, len(runes)+1); copy(rs, runes)' comes to. -/
theorem copy_ex (w : World) (a0 : Option Addr) (len cap : Nat) (zs : List Int) (hz : len ≤ zs.length)
    (ha : 0 < len → ∃ x, a0 = some x ∧ x.block < w.heap.size ∧ ∀ i, i < len → w.cell? (x.add i) = some (.int .i32 (zs.getD i 0))) :
    ∃ w1, (∀ ty, (Builtin.copy_ #[33, 33] ty #[.slice (some ⟨w.heap.size, 0, none⟩) (len + 1) (len + 1), .slice a0 len cap]).run Yba.prog (w.alloc (.cells (madeCells #[.int .i32 0] (len + 1)) 21)) = .ok (goInt len) w1) ∧
      Below w.heap.size w w1 ∧ w1.heap.size = w.heap.size + 1 ∧ w1.rowIs w.heap.size 21 (len + 1) (fun i => .int .i32 (if i < len then zs.getD i 0 else 0)) := by
  have hblk : (w.alloc (.cells (madeCells #[.int .i32 0] (len + 1)) 21)).heap[w.heap.size]? = some (.cells (madeCells #[.int .i32 0] (len + 1)) 21 (0, 0)) := Deep.blk_alloc_new _ _
  by_cases h0 : len = 0
  · subst h0
    refine ⟨_, fun ty => run_copy_none (P := Yba.prog) _ 33 33 ty 21 _ _ _ _ _ _ Yba.underlying33 Yba.size21 (by simp), (Below.refl _ _).alloc (Nat.le_refl _) _, by simp, ?_⟩
    exact (World.rowIs_made w (.int .i32 0) 1 21).congr fun i hi => by simp
  · obtain ⟨x, rfl, hb, hc⟩ := ha (by omega)
    let cs : List Value := (zs.take len).map (Value.int .i32)
    have hl : cs.length = len := by simp [cs]; omega
    have hsrc : ∀ j v, cs[j]? = some v → (w.alloc (.cells (madeCells #[.int .i32 0] (len + 1)) 21)).cell? (x.add j) = some v := by
      intro j v hj
      have hjl : j < len := by
        have := (List.getElem?_eq_some_iff.1 hj).1
        omega
      have e1 : (w.alloc (.cells (madeCells #[.int .i32 0] (len + 1)) 21)).cell? (x.add j) = w.cell? (x.add j) := ((Below.refl w.heap.size w).alloc (Nat.le_refl _) _).cell (by show (x.add j).block < _; unfold Addr.add; split <;> exact hb)
      rw [e1, hc j hjl]
      simp [cs, hjl] at hj
      obtain ⟨a, ha, rfl⟩ := hj
      simp [List.getD_eq_getElem?_getD, ha]
    have hrun := fun ty => run_copy_row (P := Yba.prog) (w.alloc (.cells (madeCells #[.int .i32 0] (len + 1)) 21)) 33 33 ty 21 w.heap.size 0 (len + 1) (len + 1) x len cap (madeCells #[.int .i32 0] (len + 1)) 21 cs
      Yba.underlying33 Yba.size21 hblk (by rw [hl]; simp) hsrc (by rw [hl, size_madeCells]; omega) (by intro v hv; obtain ⟨a, _, rfl⟩ := List.mem_map.1 hv; rfl)
    rw [hl] at hrun
    refine ⟨_, hrun, below_setRow ((Below.refl _ _).alloc (Nat.le_refl _) _) (Nat.le_refl _) _, by simp [World.setRow], ?_⟩
    refine ⟨_, setRow_heap _ _ _ _ _ _ hblk, ?_, ?_⟩
    · simp [hl, size_madeCells]
    · intro i hi
      simp only [toList_madeCells_one, List.take_zero, List.nil_append, Nat.zero_add, List.getElem?_toArray]
      by_cases hil : i < len
      · rw [List.getElem?_append_left (by omega)]
        simp [cs, hil, List.getD_eq_getElem?_getD]
        have : i < zs.length := by omega
        simp [this]
      · have : i = len := by omega
        subst this
        rw [List.getElem?_append_right (by omega)]
        simp [hl]
end Go.Proofs.Ybulkbqii
