import Derived.Test.YbulkbqiiRows
import Derived.WalkKit
import Derived.WalkSpells
import Derived.WalkLawsBesides
import Derived.Below
import Derived.Deep.QuietTactic
import Derived.BigQuiet
import Derived.Outline
namespace Go.Proofs.Ybulkbqii
open Go.RowKit

/-- altClassLike where a view is set and the member holds not one piece. -/
theorem acl_many (bm ba bv ov : Nat) (ps : Int) (w : World)
    (c1 : w.cell? ⟨ba, 1, none⟩ = some (.pointer (some ⟨bv, ov, none⟩))) (c5 : w.cell? ⟨ba, 5, none⟩ = some (.int .i32 ps)) (hp : (ps == 1) = false) :
    Calls Yba.prog 5 #[.pointer (some ⟨bm, 0, none⟩), .pointer (some ⟨ba, 0, none⟩)] w fun e w' => e = .returned (.bool false) ∧ ∃ n, w' = w.drewN n := by
  go_enter Yba.func5, Yba.ntmps5
  go_wp2
  go_quiet (fail)
  go_wp2
  go_ret
  exact ⟨rfl, _, rfl⟩

/-- .. one piece whose first code is a class. -/
theorem acl_class (bm ba bv ov g c st : Nat) (r : Int) (w : World) (hst : (st : Int) < (c : Int)) (hr : r < 0)
    (c1 : w.cell? ⟨ba, 1, none⟩ = some (.pointer (some ⟨bv, ov, none⟩)))
    (c3 : w.cell? ⟨ba, 3, none⟩ = some (.int .i32 st)) (c5 : w.cell? ⟨ba, 5, none⟩ = some (.int .i32 1))
    (m1 : w.cell? ⟨bm, 1, none⟩ = some (.slice (some ⟨g, 0, none⟩) c c)) (hs : w.cell? ⟨g, st, none⟩ = some (.int .i32 r)) :
    Calls Yba.prog 5 #[.pointer (some ⟨bm, 0, none⟩), .pointer (some ⟨ba, 0, none⟩)] w fun e w' => e = .returned (.bool true) ∧ ∃ n, w' = w.drewN n := by
  go_enter Yba.func5, Yba.ntmps5
  go_wp2
  go_quiet (fail)
  go_wp2
  go_ret
  exact ⟨rfl, _, rfl⟩

/-- .. one piece whose first code is a character. -/
theorem acl_char (bm ba bv ov g c st : Nat) (r en : Int) (w : World) (hst : (st : Int) < (c : Int)) (hr : decide (r < 0) = false)
    (c1 : w.cell? ⟨ba, 1, none⟩ = some (.pointer (some ⟨bv, ov, none⟩)))
    (c3 : w.cell? ⟨ba, 3, none⟩ = some (.int .i32 st)) (c4 : w.cell? ⟨ba, 4, none⟩ = some (.int .i32 en)) (c5 : w.cell? ⟨ba, 5, none⟩ = some (.int .i32 1))
    (m1 : w.cell? ⟨bm, 1, none⟩ = some (.slice (some ⟨g, 0, none⟩) c c)) (hs : w.cell? ⟨g, st, none⟩ = some (.int .i32 r)) :
    Calls Yba.prog 5 #[.pointer (some ⟨bm, 0, none⟩), .pointer (some ⟨ba, 0, none⟩)] w fun e w' => e = .returned (.bool (wrap32 (en - st) == 1)) ∧ ∃ n, w' = w.drewN n := by
  go_enter Yba.func5, Yba.ntmps5
  go_wp2
  go_quiet (fail)
  go_wp2
  go_ret
  exact ⟨rfl, _, rfl⟩
end Go.Proofs.Ybulkbqii
