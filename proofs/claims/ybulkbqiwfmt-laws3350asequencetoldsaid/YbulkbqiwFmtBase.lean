import Derived.Test.YbulkbqiwFmtRows
import Derived.WalkKit
import Derived.WalkSpells
import Derived.WalkLawsBesides
import Derived.Below
import Derived.DeepKeys
import Derived.Deep.MidRow
import Derived.Laws.Tables
import Derived.Laws.EntriesVeiled
namespace Go.Proofs.YbulkbqiwFmt
open Go.RowKit
set_option linter.unusedVariables false

/-- Bytes as cells. -/
def bv (l : List Int) : List Value := l.map (Value.int .u8)
/-- Sixteen bytes. -/
structure Inc (l : List Int) : Prop where
  len : l.length = 16
  wf : ∀ n ∈ l, (Lit.int .u8 n).wf = true

theorem bv_len {l : List Int} (h : Inc l) : (bv l).length = 16 := by simp [bv, h.len]
theorem bv_one (l : List Int) : ∀ v ∈ bv l, v.oneCell' = true := by
  intro v hv
  obtain ⟨a, _, rfl⟩ := List.mem_map.1 hv
  rfl

theorem keyLits_bytes {P : Program} {t e : TypeId} (hu : P.underlying t = some (.array 16 e)) (he : P.underlying e = some (.int .u8)) (hct : P.cellsOf t = 16) (hce : P.cellsOf e = 1) {l : List Int} (h : Inc l) :
    P.keyLits 2 t (bv l) = some (l.map (Lit.int .u8)) := by
  obtain ⟨hl, hw⟩ := h
  match l, hl with
  | [a0, a1, a2, a3, a4, a5, a6, a7, a8, a9, a10, a11, a12, a13, a14, a15], _ =>
    simp only [List.mem_cons, List.not_mem_nil, or_false, forall_eq_or_imp, forall_eq] at hw
    obtain ⟨h0, h1, h2, h3, h4, h5, h6, h7, h8, h9, h10, h11, h12, h13, h14, h15⟩ := hw
    simp [Program.keyLits, hu, he, hct, hce, bv, List.range_succ, h0, h1, h2, h3, h4, h5, h6, h7, h8, h9, h10, h11, h12, h13, h14, h15]

theorem inj_lits {xs ys : List Int} : xs.map (Lit.int .u8) = ys.map (Lit.int .u8) ↔ xs = ys := by
  constructor
  · intro h
    exact (List.map_inj_right (fun a b hab => by simpa using hab)).1 h
  · rintro rfl; rfl

/-- '==' of two arrays of sixteen bytes. -/
theorem run_eq_bytes {P : Program} {t e : TypeId} (hu : P.underlying t = some (.array 16 e)) (he : P.underlying e = some (.int .u8)) (hct : P.cellsOf t = 16) (hce : P.cellsOf e = 1) (hk : P.keyTypeAt 2 t = true) {xs ys : List Int} (hx : Inc xs) (hy : Inc ys) (w : World) :
    (Op.equalIn 10000 t (.agg (bv xs).toArray) (.agg (bv ys).toArray)).run P w = .ok (decide (xs = ys)) w := by
  obtain ⟨r, hr, hiff⟩ := run_equalIn_deep (P := P) 9998 2 t hk w 2 2 (.agg (bv xs).toArray) (.agg (bv ys).toArray) _ _ (by simp [Value.formed, hu, hct, bv_len hx]) (by simp [Value.formed, hu, hct, bv_len hy])
    (by simpa [Value.cells] using keyLits_bytes hu he hct hce hx) (by simpa [Value.cells] using keyLits_bytes hu he hct hce hy)
  rw [inj_lits] at hiff
  have e1 : r = decide (xs = ys) := by
    cases r
    · symm; rw [decide_eq_false_iff_not]; intro e; exact absurd (hiff.2 e) (by simp)
    · symm; rw [decide_eq_true_iff]; exact hiff.1 rfl
  rw [← e1]
  exact hr
end Go.Proofs.YbulkbqiwFmt
