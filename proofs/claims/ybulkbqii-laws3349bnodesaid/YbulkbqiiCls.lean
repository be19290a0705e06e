import Derived.Test.YbulkbqiiRows
import Derived.WalkKit
import Derived.WalkSpells
import Derived.WalkLawsBesides
import Derived.Below
import Derived.Deep.QuietTactic
import Derived.BigQuiet
namespace Go.Proofs.Ybulkbqii
open Go.RowKit
set_option linter.unusedVariables false

/-- Which nodes stand for one character of a set. -/
def clsB (op at' en : Int) : Bool := (op == 3 || op == 4 || op == 5) || (op == 2 && en == wrap32 (at' + 1))

theorem cls_eq (at' en : Int) (h1 : -2147483648 ≤ at') (h2 : at' ≤ 2147483647) (h3 : -2147483648 ≤ en) (h4 : en ≤ 2147483647) : (wrap32 (en - at') == 1) = (en == wrap32 (at' + 1)) := by
  unfold wrap32
  rw [Bool.eq_iff_iff, beq_iff_eq, beq_iff_eq]
  omega

/-- classLike at a literal. -/
theorem cl_lit (g off : Nat) (at' en : Int) (w : World) (h1 : -2147483648 ≤ at') (h2 : at' ≤ 2147483647) (h3 : -2147483648 ≤ en) (h4 : en ≤ 2147483647)
    (c13 : w.cell? ⟨g, off + 13, none⟩ = some (.int .u8 2)) (c3 : w.cell? ⟨g, off + 3, none⟩ = some (.int .i32 at')) (c4 : w.cell? ⟨g, off + 4, none⟩ = some (.int .i32 en)) :
    Calls Yba.prog 7 #[.pointer (some ⟨g, off, none⟩)] w fun e w' => e = .returned (.bool (clsB 2 at' en)) ∧ ∃ n, w' = w.drewN n := by
  have he := cls_eq at' en h1 h2 h3 h4
  have hc : clsB 2 at' en = (wrap32 (en - at') == 1) := by simp [clsB, he]
  rw [hc]
  clear hc he
  go_enter Yba.func7, Yba.ntmps7
  go_wp2
  go_quiet (fail)
  go_wp2
  go_ret
  exact ⟨rfl, _, rfl⟩

/-- classLike elsewhere. -/
theorem cl_other (g off : Nat) (op at' en : Int) (w : World) (h2 : (op == 2) = false) (c13 : w.cell? ⟨g, off + 13, none⟩ = some (.int .u8 op)) :
    Calls Yba.prog 7 #[.pointer (some ⟨g, off, none⟩)] w fun e w' => e = .returned (.bool (clsB op at' en)) ∧ ∃ n, w' = w.drewN n := by
  by_cases a3 : op = 3
  · have hc : clsB op at' en = true := by simp [clsB, a3]
    rw [hc]
    have b3 : (op == 3) = true := by simp [a3]
    clear a3 hc
    go_enter Yba.func7, Yba.ntmps7
    go_wp2
    go_ret
    exact ⟨rfl, 0, rfl⟩
  have b3 : (op == 3) = false := by simp [a3]
  by_cases a4 : op = 4
  · have hc : clsB op at' en = true := by simp [clsB, a4]
    rw [hc]
    have b4 : (op == 4) = true := by simp [a4]
    clear a3 a4 hc
    go_enter Yba.func7, Yba.ntmps7
    go_wp2
    go_ret
    exact ⟨rfl, 0, rfl⟩
  have b4 : (op == 4) = false := by simp [a4]
  by_cases a5 : op = 5
  · have hc : clsB op at' en = true := by simp [clsB, a5]
    rw [hc]
    have b5 : (op == 5) = true := by simp [a5]
    clear a3 a4 a5 hc
    go_enter Yba.func7, Yba.ntmps7
    go_wp2
    go_ret
    exact ⟨rfl, 0, rfl⟩
  have b5 : (op == 5) = false := by simp [a5]
  have hc : clsB op at' en = false := by simp [clsB, b3, b4, b5, h2]
  rw [hc]
  clear a3 a4 a5 hc
  go_enter Yba.func7, Yba.ntmps7
  go_wp2
  go_ret
  exact ⟨rfl, 0, rfl⟩

/-- classLike, whatever the node. -/
theorem cl_any (g off : Nat) (op at' en : Int) (w : World) (h1 : -2147483648 ≤ at') (h2 : at' ≤ 2147483647) (h3 : -2147483648 ≤ en) (h4 : en ≤ 2147483647)
    (c13 : w.cell? ⟨g, off + 13, none⟩ = some (.int .u8 op)) (c3 : w.cell? ⟨g, off + 3, none⟩ = some (.int .i32 at')) (c4 : w.cell? ⟨g, off + 4, none⟩ = some (.int .i32 en)) :
    Calls Yba.prog 7 #[.pointer (some ⟨g, off, none⟩)] w fun e w' => e = .returned (.bool (clsB op at' en)) ∧ ∃ n, w' = w.drewN n := by
  by_cases a2 : op = 2
  · subst a2
    exact cl_lit g off at' en w h1 h2 h3 h4 c13 c3 c4
  · exact cl_other g off op at' en w (by simp [a2]) c13

/-- The law's own table of the same. -/
theorem zz_any (op at' en : Int) (w : World) : Calls Yba.prog 6 #[.int .u8 op, .int .i32 at', .int .i32 en] w fun e w' => e = .returned (.bool (clsB op at' en)) ∧ w' = w := by
  by_cases a3 : op = 3
  · have hc : clsB op at' en = true := by simp [clsB, a3]
    rw [hc]
    have b3 : (op == 3) = true := by simp [a3]
    clear a3 hc
    go_enter Yba.func6, Yba.ntmps6
    go_wp2
    go_ret
    exact ⟨rfl, rfl⟩
  have b3 : (op == 3) = false := by simp [a3]
  by_cases a4 : op = 4
  · have hc : clsB op at' en = true := by simp [clsB, a4]
    rw [hc]
    have b4 : (op == 4) = true := by simp [a4]
    clear a3 a4 hc
    go_enter Yba.func6, Yba.ntmps6
    go_wp2
    go_ret
    exact ⟨rfl, rfl⟩
  have b4 : (op == 4) = false := by simp [a4]
  by_cases a5 : op = 5
  · have hc : clsB op at' en = true := by simp [clsB, a5]
    rw [hc]
    have b5 : (op == 5) = true := by simp [a5]
    clear a3 a4 a5 hc
    go_enter Yba.func6, Yba.ntmps6
    go_wp2
    go_ret
    exact ⟨rfl, rfl⟩
  have b5 : (op == 5) = false := by simp [a5]
  by_cases a2 : op = 2
  · have hc : clsB op at' en = (en == wrap32 (at' + 1)) := by simp [clsB, a2]
    rw [hc]
    have b2 : (op == 2) = true := by simp [a2]
    clear a2 a3 a4 a5 hc
    go_enter Yba.func6, Yba.ntmps6
    go_wp2
    go_ret
    exact ⟨rfl, rfl⟩
  have b2 : (op == 2) = false := by simp [a2]
  have hc : clsB op at' en = false := by simp [clsB, b3, b4, b5, b2]
  rw [hc]
  clear a2 a3 a4 a5 hc
  go_enter Yba.func6, Yba.ntmps6
  go_wp2
  go_ret
  exact ⟨rfl, rfl⟩
end Go.Proofs.Ybulkbqii
