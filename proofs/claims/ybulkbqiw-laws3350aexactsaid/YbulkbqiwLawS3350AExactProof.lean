/-
  THE PROOF OF 'Rows.LawS3350AExactSaid'. The frame is the guide's own (howto/template/XProofs.lean), turned to one struct by value with arrays in it.
-/
import Derived.Test.YbulkbqiwExactSame
import Derived.WalkKit
import Derived.ProofKit
import Derived.OpenShut
import Derived.ShutString
import Derived.ChangeOld
import Derived.Below
namespace Go.Proofs.Ybulkbqiw.lawS3350AExact
open Go.ChangeShapes Go.WideShapes Go.ChangeAt Go.RowKit
set_option linter.unusedVariables false

theorem own : ownKnob Yba.prog.godebug = none := by kernel_rfl
theorem laidOut : laidOutB Yba.prog = true := by kernel_rfl
theorem cells22 : Yba.prog.cellsOf 22 = 16 := by kernel_rfl
theorem cells23 : Yba.prog.cellsOf 23 = 1 := by kernel_rfl
theorem cells4 : Yba.prog.cellsOf 4 = 1 := by kernel_rfl

section
variable {H : Type} {enc : TypeId × Value → H} {w : World} {fuel : Nat} {cs : List Value} {x : DataW H × List MemPlace}

/-- The number in a cell. -/
def numOf : Value → Int
  | .int _ n => n
  | _ => 0

/-- Sixteen bytes that came in. -/
theorem open_bytes (h : DataW.trod enc Yba.prog w 0 (fun _ => true) true fuel 22 cs = some x) : ∃ l, Inc l ∧ cs = bv l := by
  obtain ⟨xs, m, _, _, hl, hxl, hi⟩ := DataW.trod_array Yba.underlying22 h
  rw [cells22] at hl
  have each : ∀ i, i < 16 → ∃ n, cs[i]? = some (.int .u8 n) ∧ (Lit.int .u8 n).wf = true := by
    intro i hi16
    have h1 := hi i hi16
    rw [Yba.cells5, Nat.mul_one, List.getElem?_eq_getElem (by omega)] at h1
    obtain ⟨n, e, _, hw⟩ := DataW.trod_int Yba.underlying5 h1
    refine ⟨n, ?_, hw⟩
    have e2 := congrArg (fun l => l[0]?) e
    simpa [List.getElem?_take, List.getElem?_drop] using e2
  refine ⟨cs.map numOf, ⟨by simp [hl], fun n hn => ?_⟩, ?_⟩
  · obtain ⟨v, hv, rfl⟩ := List.mem_map.1 hn
    obtain ⟨i, hi1, rfl⟩ := List.getElem_of_mem hv
    obtain ⟨n, e, hw⟩ := each i (by omega)
    rw [List.getElem?_eq_getElem hi1] at e
    simp only [Option.some.injEq] at e
    rw [e]
    exact hw
  · apply List.ext_getElem?
    intro i
    by_cases hi1 : i < 16
    · obtain ⟨n, e, _⟩ := each i hi1
      simp [bv, e, numOf]
    · have : cs.length ≤ i := by omega
      simp [bv, List.getElem?_eq_none this]

theorem open_arg (h : DataW.trod enc Yba.prog w 0 (fun _ => true) true fuel 25 cs = some x) :
    ∃ own heard hA nx sent cur rs ak rinc first same, Inc own ∧ Inc heard ∧ Inc rinc ∧ cs = argCells own heard hA nx sent cur rs ak rinc first same := by
  obtain ⟨xs, n, _, _, hl, hxl, hf⟩ := DataW.trod_struct Yba.underlying25 h
  have hl' : cs.length = 56 := hl.trans (by kernel_rfl)
  have hxl' : xs.length = 11 := hxl
  have f0 : DataW.trod enc Yba.prog w 0 (fun _ => true) true n 22 ((cs.drop 0).take (Yba.prog.cellsOf 22)) = xs[0]? := hf 0 _ rfl
  have f1 : DataW.trod enc Yba.prog w 0 (fun _ => true) true n 22 ((cs.drop 16).take (Yba.prog.cellsOf 22)) = xs[1]? := hf 1 _ rfl
  have f2 : DataW.trod enc Yba.prog w 0 (fun _ => true) true n 4 ((cs.drop 32).take (Yba.prog.cellsOf 4)) = xs[2]? := hf 2 _ rfl
  have f3 : DataW.trod enc Yba.prog w 0 (fun _ => true) true n 23 ((cs.drop 33).take (Yba.prog.cellsOf 23)) = xs[3]? := hf 3 _ rfl
  have f4 : DataW.trod enc Yba.prog w 0 (fun _ => true) true n 23 ((cs.drop 34).take (Yba.prog.cellsOf 23)) = xs[4]? := hf 4 _ rfl
  have f5 : DataW.trod enc Yba.prog w 0 (fun _ => true) true n 23 ((cs.drop 35).take (Yba.prog.cellsOf 23)) = xs[5]? := hf 5 _ rfl
  have f6 : DataW.trod enc Yba.prog w 0 (fun _ => true) true n 4 ((cs.drop 36).take (Yba.prog.cellsOf 4)) = xs[6]? := hf 6 _ rfl
  have f7 : DataW.trod enc Yba.prog w 0 (fun _ => true) true n 23 ((cs.drop 37).take (Yba.prog.cellsOf 23)) = xs[7]? := hf 7 _ rfl
  have f8 : DataW.trod enc Yba.prog w 0 (fun _ => true) true n 22 ((cs.drop 38).take (Yba.prog.cellsOf 22)) = xs[8]? := hf 8 _ rfl
  have f9 : DataW.trod enc Yba.prog w 0 (fun _ => true) true n 23 ((cs.drop 54).take (Yba.prog.cellsOf 23)) = xs[9]? := hf 9 _ rfl
  have f10 : DataW.trod enc Yba.prog w 0 (fun _ => true) true n 4 ((cs.drop 55).take (Yba.prog.cellsOf 4)) = xs[10]? := hf 10 _ rfl
  rw [cells22, List.getElem?_eq_getElem (by omega)] at f0
  rw [cells22, List.getElem?_eq_getElem (by omega)] at f1
  rw [cells4, List.getElem?_eq_getElem (by omega)] at f2
  rw [cells23, List.getElem?_eq_getElem (by omega)] at f3
  rw [cells23, List.getElem?_eq_getElem (by omega)] at f4
  rw [cells23, List.getElem?_eq_getElem (by omega)] at f5
  rw [cells4, List.getElem?_eq_getElem (by omega)] at f6
  rw [cells23, List.getElem?_eq_getElem (by omega)] at f7
  rw [cells22, List.getElem?_eq_getElem (by omega)] at f8
  rw [cells23, List.getElem?_eq_getElem (by omega)] at f9
  rw [cells4, List.getElem?_eq_getElem (by omega)] at f10
  obtain ⟨own, hO, e0⟩ := open_bytes f0
  obtain ⟨heard, hH, e1⟩ := open_bytes f1
  obtain ⟨hA, e2, _⟩ := DataW.trod_bool Yba.underlying4 f2
  obtain ⟨nx, e3, _, _⟩ := DataW.trod_int Yba.underlying23 f3
  obtain ⟨sent, e4, _, _⟩ := DataW.trod_int Yba.underlying23 f4
  obtain ⟨cur, e5, _, _⟩ := DataW.trod_int Yba.underlying23 f5
  obtain ⟨rs, e6, _⟩ := DataW.trod_bool Yba.underlying4 f6
  obtain ⟨ak, e7, _, _⟩ := DataW.trod_int Yba.underlying23 f7
  obtain ⟨rinc, hR, e8⟩ := open_bytes f8
  obtain ⟨first, e9, _, _⟩ := DataW.trod_int Yba.underlying23 f9
  obtain ⟨same, e10, _⟩ := DataW.trod_bool Yba.underlying4 f10
  refine ⟨own, heard, hA, nx, sent, cur, rs, ak, rinc, first, same, hO, hH, hR, ?_⟩
  have cut : ∀ k m, cs.drop k = (cs.drop k).take m ++ cs.drop (k + m) := fun k m => by
    rw [← List.drop_drop]
    exact (List.take_append_drop m _).symm
  have c0 : cs = cs.drop 0 := rfl
  rw [c0, cut 0 16, e0, cut (0 + 16) 16, e1, cut (0 + 16 + 16) 1, e2, cut (0 + 16 + 16 + 1) 1, e3, cut (0 + 16 + 16 + 1 + 1) 1, e4, cut (0 + 16 + 16 + 1 + 1 + 1) 1, e5, cut (0 + 16 + 16 + 1 + 1 + 1 + 1) 1, e6,
    cut (0 + 16 + 16 + 1 + 1 + 1 + 1 + 1) 1, e7, cut (0 + 16 + 16 + 1 + 1 + 1 + 1 + 1 + 1) 16, e8, cut (0 + 16 + 16 + 1 + 1 + 1 + 1 + 1 + 1 + 16) 1, e9, cut (0 + 16 + 16 + 1 + 1 + 1 + 1 + 1 + 1 + 16 + 1) 1, e10, List.drop_eq_nil_of_le (by omega)]
  simp [argCells]
end

theorem walk (A : Array Value) (w : World) (h : ∃ own heard hA nx sent cur rs ak rinc first same, Inc own ∧ Inc heard ∧ Inc rinc ∧ A.toList = argCells own heard hA nx sent cur rs ak rinc first same) :
    Calls Yba.prog 3 #[.agg A] w fun e w' => e = .returned (.bool true) ∧ Below w.heap.size w w' := by
  obtain ⟨own, heard, hA, nx, sent, cur, rs, ak, rinc, first, same, hO, hH, hR, e⟩ := h
  have e' : A = (argCells own heard hA nx sent cur rs ak rinc first same).toArray := by rw [← e]
  cases same with
  | false => exact exact_other own heard rinc hA nx sent cur rs ak first w hO hH hR A e'
  | true => exact exact_same own heard rinc hA nx sent cur rs ak first w hO hH hR A e'

set_option maxRecDepth 100000 in
theorem lifted (os : Os) (started : os.Started) (H : Type) (enc : TypeId × Value → H) :
    ReturnsInHanded {} Yba.checked os 3 .any (Rows.lawS3350AExactSpec.pre6 enc Yba.prog Yba.f3 Rows.lawS3350AExactRow.domain false) (Rows.lawS3350AExactSpec.post enc Yba.prog Yba.f3 false true false false) := by
  refine returnsInHanded_of_change (C := Yba.checked) own started (by kernel_rfl) Yba.func3
    (ChangeSpec.witness6 (enc := enc) (C := Yba.checked) false ⟨#[], #[.agg #[.int .u8 0, .int .u8 0, .int .u8 0, .int .u8 0, .int .u8 0, .int .u8 0, .int .u8 0, .int .u8 0, .int .u8 0, .int .u8 0, .int .u8 0, .int .u8 0, .int .u8 0, .int .u8 0, .int .u8 0, .int .u8 0, .int .u8 0, .int .u8 0, .int .u8 0, .int .u8 0, .int .u8 0, .int .u8 0, .int .u8 0, .int .u8 0, .int .u8 0, .int .u8 0, .int .u8 0, .int .u8 0, .int .u8 0, .int .u8 0, .int .u8 0, .int .u8 0, .bool false, .int .u64 0, .int .u64 0, .int .u64 0, .bool false, .int .u64 0, .int .u8 0, .int .u8 0, .int .u8 0, .int .u8 0, .int .u8 0, .int .u8 0, .int .u8 0, .int .u8 0, .int .u8 0, .int .u8 0, .int .u8 0, .int .u8 0, .int .u8 0, .int .u8 0, .int .u8 0, .int .u8 0, .int .u64 0, .bool false]], []⟩ 8 (by kernel_rfl) (by kernel_rfl) (by kernel_rfl) (by kernel_rfl)) ?_
  intro W base args ds gs before hval0 hW hcnd _
  have hval : ∀ (j : Nat) t v, Yba.f3.params[j]? = some t → args[j]? = some v → Value.okWide Yba.prog W .any base t v := hval0
  have hW' := hW
  obtain ⟨p, q, hA0, hV, rfl, hfz, hnd⟩ := hW
  have hA : DataW.TrodAll enc Yba.prog W 0 (fun _ => true) true Yba.f3.params.toList args.toList ds p := hA0
  rw [Yba.params3] at hA hval
  obtain ⟨v0, vs0, d0, ds0, p0, q0, hargs, rfl, rfl, h0, r0⟩ := trodAll_cons hA
  obtain ⟨rfl, rfl, rfl⟩ := trodAll_nil r0
  obtain rfl : args = #[v0] := by cases args; simp_all
  obtain ⟨rfl, rfl⟩ := trodVars_none hV
  obtain ⟨A, rfl, hsz⟩ := okWide_struct Yba.underlying25 (hval 0 25 v0 rfl rfl)
  have k0 := h0
  have lt0 : ∀ x ∈ p0, x.block < W.heap.size := by obtain ⟨m, hm⟩ := k0; exact DataW.trod_lt m _ _ _ hm
  obtain ⟨fuel, hf⟩ := h0
  clear hA0 hval0
  refine (walk A W (open_arg (by simpa [Value.cells] using hf))).mono fun e W' ⟨he, bel⟩ => ?_
  subst he
  exact ⟨_, rfl, _, _, _, [], _, [], hW', trodAll_mk1 (shut_bool Yba.underlying4 _), (trodAll_cons_mk (Below.trod laidOut (by kernel_rfl) (of_decide_eq_true (by kernel_rfl)) k0 bel lt0) trodAll_mk0), rfl, bel.frame _, fun h => by cases h⟩

theorem over : Rows.lawS3350AExactRow.holds Yba.pinned (OpenSpec.ofChange Rows.lawS3350AExactSpec) :=
  OpenClaim.holds_of_wide 3 Yba.f3 rfl rfl rfl rfl rfl rfl rfl ⟨rfl, rfl, rfl, rfl, rfl⟩ rfl rfl rfl rfl rfl (by kernel_rfl) Yba.func3 (by kernel_rfl)
    (of_decide_eq_true (by kernel_rfl)) (by unfold Func.isWrapper; first | (rw [if_pos (by decide +kernel)]; kernel_rfl) | (rw [if_neg (by decide +kernel)]; exact ⟨rfl, rfl⟩))
    (fun os started H enc _ => lifted os started H enc)

/-- ████ THE STATEMENT ████ -/
theorem proved : Rows.LawS3350AExactSaid := over
#print axioms proved
end Go.Proofs.Ybulkbqiw.lawS3350AExact
