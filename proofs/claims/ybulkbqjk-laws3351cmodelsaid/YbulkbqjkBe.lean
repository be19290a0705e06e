import Derived.Test.YbulkbqjkUv
namespace Go.Proofs.Ybulkbqjk
open Go.RowKit
set_option linter.unusedVariables false

/-- A uint64's bytes, the highest first. -/
def be8 (x : Int) : List Int := [x / 72057594037927936 % 256, x / 281474976710656 % 256, x / 1099511627776 % 256, x / 4294967296 % 256, x / 16777216 % 256, x / 65536 % 256, x / 256 % 256, x % 256]

theorem src_new (w : World) (f : List Int) (g : Nat) (hg : g = w.heap.size) : Src (w.alloc (.cells (bv f).toArray 5)) (w.heap.size + 1) (.slice (some ⟨g, 0, none⟩) f.length f.length) f := by
  subst hg
  refine .inr ⟨_, _, rfl, fun j hj => ⟨by show w.heap.size < _; omega, ?_⟩⟩
  have hb : (w.alloc (.cells (bv f).toArray 5)).heap[w.heap.size]? = some (.cells (bv f).toArray 5 (0, 0)) := Deep.blk_alloc_new _ _
  have e : (⟨w.heap.size, 0, none⟩ : Addr).add j = ⟨w.heap.size, j, none⟩ := by unfold Addr.add; split <;> simp_all
  rw [e, cell_of_row _ _ _ (bv f).toArray 5 (0, 0) hb]
  simp [bv, hj]

/-- (bigEndian).AppendUint64. -/
theorem be_any (B : Nat) (W0 : World) (v : Value) (l : List Int) (x : Int) (w : World) (hx0 : 0 ≤ x) (hx1 : x < 18446744073709551616) (hb : Buf B W0 v l w) (hlen : l.length ≤ 100000000) :
    Calls Yba.prog 16 #[.agg #[], v, .int .u64 x] w fun e w' => ∃ v', e = .returned v' ∧ Buf B W0 v' (l ++ be8 x) w' := by
  have HB : Hid (Buf B W0 v l w) := hb
  have HX : Hid (x < 18446744073709551616) := hx1
  clear hb hx1
  go_enter Yba.func16, Yba.ntmps16
  go_wp2_with (at_builtin; refine append_src rfl (.tmp 7) (.tmp 31) rfl B W0 _ l rfl ((HB.out.alloc _).alloc _) _ rfl _ (be8 x) (src_new (w.alloc (.cells #[] 47)) (be8 x) _ (by simp)) (by simp [be8]; omega) ?_)
  intro v2 w2 hb2
  have HB2 : Hid (Buf B W0 v2 (l ++ be8 x) w2) := hb2
  clear hb2 HB
  go_wp2_with fail
  go_ret
  exact ⟨v2, rfl, HB2.out⟩
end Go.Proofs.Ybulkbqjk
