/-
  THE PROOF OF 'Rows.LawS3351CModelSaid'. The frame is the guide's own (howto/template/XProofs.lean), turned to one struct by value with a slice of slices of bytes in it.
-/
import Derived.Test.YbulkbqjkLawCp
import Derived.WalkKit
import Derived.ProofKit
import Derived.OpenShut
import Derived.ShutString
import Derived.ChangeOld
import Derived.Below
import Derived.Deep.Slices
import Derived.Deep.Strs
namespace Go.Proofs.Ybulkbqjk.lawS3351CModel
open Go.ChangeShapes Go.WideShapes Go.ChangeAt Go.RowKit Go.Deep
set_option linter.unusedVariables false

theorem own : ownKnob Yba.prog.godebug = none := by kernel_rfl
theorem laidOut : laidOutB Yba.prog = true := by kernel_rfl
theorem cells28 : Yba.prog.cellsOf 28 = 5 := by kernel_rfl
theorem cells9 : Yba.prog.cellsOf 9 = 1 := by kernel_rfl
theorem cells22 : Yba.prog.cellsOf 22 = 1 := by kernel_rfl
theorem cells4 : Yba.prog.cellsOf 4 = 1 := by kernel_rfl
theorem cells26 : Yba.prog.cellsOf 26 = 1 := by kernel_rfl
theorem cells39 : Yba.prog.cellsOf 39 = 1 := by kernel_rfl
theorem cells5 : Yba.prog.cellsOf 5 = 1 := by kernel_rfl

section
variable {H : Type} {enc : TypeId × Value → H} {w : World} {fuel : Nat} {cs : List Value} {x : DataW H × List MemPlace}

/-- A key that came in. -/
theorem open_key {v : Value} (h : DataW.trod enc Yba.prog w 0 (fun _ => true) true fuel 39 [v] = some x) : ∃ f, Src w w.heap.size v f ∧ f.length ≤ maxLen := by
  rcases open_slice1 Yba.underlying39 cells5 h with ⟨hcs, _⟩ | ⟨a, len, cap, m, n, V, D, Pl, hcs, _, hl, hm0, hm, _, hx⟩
  · simp only [List.cons.injEq, and_true] at hcs
    exact ⟨[], .inl ⟨hcs, rfl⟩, Nat.zero_le _⟩
  · simp only [List.cons.injEq, and_true] at hcs
    simp only [if_true] at hm
    subst hm
    have hx' : ∀ i, i < len → ∃ k : Int, w.cell? (a.add i) = some (.int .u8 k) := fun i hi => by
      obtain ⟨h1, h2⟩ := hx i (by omega)
      obtain ⟨k, e, _, _⟩ := DataW.trod_int Yba.underlying5 h2
      simp only [List.cons.injEq, and_true] at e
      exact ⟨k, by rw [h1, e]⟩
    obtain ⟨g, hg⟩ := choose_lt hx'
    refine ⟨(List.range len).map g, .inr ⟨a, m, ?_, fun j hj => ?_⟩, ?_⟩
    · rw [hcs, List.length_map, List.length_range]
    · rw [List.length_map, List.length_range] at hj
      have h1 := hg j hj
      refine ⟨?_, ?_⟩
      · have := World.block_lt_of_cell? _ _ h1
        rwa [add_block] at this
      · rw [h1]
        simp [List.getD_eq_getElem?_getD, hj]
    · rw [List.length_map, List.length_range]
      omega

/-- The prefix that came in. -/
theorem open_pref {v : Value} (h : DataW.trod enc Yba.prog w 0 (fun _ => true) true fuel 26 [v] = some x) :
    ∃ a c fs, v = .slice a fs.length c ∧ Pref w w.heap.size a fs ∧ fs.length ≤ maxLen ∧ (∀ i, i < fs.length → (fs.getD i []).length ≤ maxLen) ∧ (a = none → fs = [] ∧ c = 0) := by
  rcases open_slice1 Yba.underlying26 cells39 h with ⟨hcs, _⟩ | ⟨a, len, cap, m, n, V, D, Pl, hcs, _, hl, hm0, hm, _, hx⟩
  · simp only [List.cons.injEq, and_true] at hcs
    exact ⟨none, 0, [], hcs, .inl rfl, Nat.zero_le _, fun i hi => by simp at hi, fun _ => ⟨rfl, rfl⟩⟩
  · simp only [List.cons.injEq, and_true] at hcs
    simp only [if_true] at hm
    subst hm
    have hx' : ∀ i, i < len → ∃ f : List Int, w.cell? (a.add i) = some (V i) ∧ Src w w.heap.size (V i) f ∧ f.length ≤ maxLen := fun i hi => by
      obtain ⟨h1, h2⟩ := hx i (by omega)
      obtain ⟨f, h3, h4⟩ := open_key h2
      exact ⟨f, h1, h3, h4⟩
    obtain ⟨g, hg⟩ := choose_lt hx'
    have hlen : ((List.range len).map g).length = len := by rw [List.length_map, List.length_range]
    have hget : ∀ i, i < len → ((List.range len).map g).getD i [] = g i := fun i hi => by simp [List.getD_eq_getElem?_getD, hi]
    refine ⟨some a, m, (List.range len).map g, by rw [hcs, hlen], ?_, by rw [hlen]; omega, fun i hi => ?_, fun h => by cases h⟩
    · by_cases h0 : len = 0
      · subst h0
        exact .inl rfl
      · have c0 := (hg 0 (by omega)).1
        obtain ⟨b, o, spot⟩ := a
        have hspot : spot = none := by simpa [Addr.add] using World.cell?_spot c0
        subst hspot
        refine .inr ⟨b, o, rfl, ?_, fun i hi => ?_⟩
        · have := World.block_lt_of_cell? _ _ c0
          rwa [add_block] at this
        · rw [hlen] at hi
          refine ⟨V i, ?_, ?_⟩
          · have := (hg i hi).1
            rwa [add_plain] at this
          · rw [hget i hi]
            exact (hg i hi).2.1
    · rw [hlen] at hi
      rw [hget i hi]
      exact (hg i hi).2.2

/-- What the walk is told of the record that came in. -/
def IsRec (w : World) (cs : List Value) : Prop :=
  ∃ typ seq has cid a c fs, cs = [.string typ, .int .u64 seq, .bool has, .string cid, .slice a fs.length c] ∧ typ.size ≤ maxLen ∧ 0 ≤ seq ∧ seq < 18446744073709551616 ∧ cid.size ≤ maxLen ∧
    Pref w w.heap.size a fs ∧ fs.length ≤ maxLen ∧ (∀ i, i < fs.length → (fs.getD i []).length ≤ maxLen) ∧ (a = none → fs = [] ∧ c = 0)

theorem open_arg (h : DataW.trod enc Yba.prog w 0 (fun _ => true) true fuel 28 cs = some x) : IsRec w cs := by
  obtain ⟨xs, n, _, _, hl, hxl, hf⟩ := DataW.trod_struct Yba.underlying28 h
  rw [cells28] at hl
  have hxl' : xs.length = 5 := hxl
  match cs, hl with
  | [v0, v1, v2, v3, v4], _ =>
    have f0 : DataW.trod enc Yba.prog w 0 (fun _ => true) true n 9 (([v0, v1, v2, v3, v4].drop 0).take (Yba.prog.cellsOf 9)) = xs[0]? := hf 0 _ rfl
    have f1 : DataW.trod enc Yba.prog w 0 (fun _ => true) true n 22 (([v0, v1, v2, v3, v4].drop 1).take (Yba.prog.cellsOf 22)) = xs[1]? := hf 1 _ rfl
    have f2 : DataW.trod enc Yba.prog w 0 (fun _ => true) true n 4 (([v0, v1, v2, v3, v4].drop 2).take (Yba.prog.cellsOf 4)) = xs[2]? := hf 2 _ rfl
    have f3 : DataW.trod enc Yba.prog w 0 (fun _ => true) true n 9 (([v0, v1, v2, v3, v4].drop 3).take (Yba.prog.cellsOf 9)) = xs[3]? := hf 3 _ rfl
    have f4 : DataW.trod enc Yba.prog w 0 (fun _ => true) true n 26 (([v0, v1, v2, v3, v4].drop 4).take (Yba.prog.cellsOf 26)) = xs[4]? := hf 4 _ rfl
    rw [cells9, List.getElem?_eq_getElem (by omega)] at f0
    rw [cells22, List.getElem?_eq_getElem (by omega)] at f1
    rw [cells4, List.getElem?_eq_getElem (by omega)] at f2
    rw [cells9, List.getElem?_eq_getElem (by omega)] at f3
    rw [cells26, List.getElem?_eq_getElem (by omega)] at f4
    simp only [List.drop_zero, List.drop_succ_cons, List.take_succ_cons, List.take_zero] at f0 f1 f2 f3 f4
    obtain ⟨typ, e0, _, ht⟩ := DataW.trod_string Yba.underlying9 f0
    obtain ⟨seq, e1, _, hs⟩ := DataW.trod_int Yba.underlying22 f1
    obtain ⟨has, e2, _⟩ := DataW.trod_bool Yba.underlying4 f2
    obtain ⟨cid, e3, _, hc⟩ := DataW.trod_string Yba.underlying9 f3
    obtain ⟨a, c, fs, rfl, hP, hfl, hff, hnil⟩ := open_pref f4
    simp only [List.cons.injEq, and_true] at e0 e1 e2 e3
    subst e0 e1 e2 e3
    have hb := bounds_u64 hs
    exact ⟨typ, seq, has, cid, a, c, fs, rfl, ht, by omega, by omega, hc, hP, hfl, hff, hnil⟩
end

theorem walk (A : Array Value) (w : World) (h : IsRec w A.toList) : Calls Yba.prog 5 #[.agg A] w fun e w' => e = .returned (.bool true) ∧ Below w.heap.size w w' := by
  obtain ⟨typ, seq, has, cid, a, c, fs, e, ht, hs0, hs1, hc, hP, hfl, hff, hnil⟩ := h
  have e' : A = #[.string typ, .int .u64 seq, .bool has, .string cid, .slice a fs.length c] := by rw [← Array.toArray_toList (xs := A), e]
  subst e'
  cases has with
  | false => exact law_none typ cid seq a c fs w hP ht hc hfl hff hnil hs0 hs1
  | true => exact law_cp typ cid seq a c fs w hP ht hc hfl hff hnil hs0 hs1

set_option maxRecDepth 100000 in
theorem lifted (os : Os) (started : os.Started) (H : Type) (enc : TypeId × Value → H) :
    ReturnsInHanded {} Yba.checked os 5 .any (Rows.lawS3351CModelSpec.pre6 enc Yba.prog Yba.f5 Rows.lawS3351CModelRow.domain false) (Rows.lawS3351CModelSpec.post enc Yba.prog Yba.f5 false true false false) := by
  refine returnsInHanded_of_change (C := Yba.checked) own started (by kernel_rfl) Yba.func5
    (ChangeSpec.witness6 (enc := enc) (C := Yba.checked) false ⟨#[], #[.agg #[.string ⟨#[]⟩, .int .u64 0, .bool false, .string ⟨#[]⟩, .slice none 0 0]], []⟩ 8 (by kernel_rfl) (by kernel_rfl) (by kernel_rfl) (by kernel_rfl)) ?_
  intro W base args ds gs before hval0 hW hcnd _
  have hval : ∀ (j : Nat) t v, Yba.f5.params[j]? = some t → args[j]? = some v → Value.okWide Yba.prog W .any base t v := hval0
  have hW' := hW
  obtain ⟨p, q, hA0, hV, rfl, hfz, hnd⟩ := hW
  have hA : DataW.TrodAll enc Yba.prog W 0 (fun _ => true) true Yba.f5.params.toList args.toList ds p := hA0
  rw [Yba.params5] at hA hval
  obtain ⟨v0, vs0, d0, ds0, p0, q0, hargs, rfl, rfl, h0, r0⟩ := trodAll_cons hA
  obtain ⟨rfl, rfl, rfl⟩ := trodAll_nil r0
  obtain rfl : args = #[v0] := by cases args; simp_all
  obtain ⟨rfl, rfl⟩ := trodVars_none hV
  obtain ⟨A, rfl, hsz⟩ := okWide_struct Yba.underlying28 (hval 0 28 v0 rfl rfl)
  have k0 := h0
  have lt0 : ∀ x ∈ p0, x.block < W.heap.size := by obtain ⟨m, hm⟩ := k0; exact DataW.trod_lt m _ _ _ hm
  obtain ⟨fuel, hf⟩ := h0
  clear hA0 hval0
  refine (walk A W (open_arg (by simpa [Value.cells] using hf))).mono fun e W' ⟨he, bel⟩ => ?_
  subst he
  exact ⟨_, rfl, _, _, _, [], _, [], hW', trodAll_mk1 (shut_bool Yba.underlying4 _), (trodAll_cons_mk (Below.trod laidOut (by kernel_rfl) (of_decide_eq_true (by kernel_rfl)) k0 bel lt0) trodAll_mk0), rfl, bel.frame _, fun h => by cases h⟩

theorem over : Rows.lawS3351CModelRow.holds Yba.pinned (OpenSpec.ofChange Rows.lawS3351CModelSpec) :=
  OpenClaim.holds_of_wide 5 Yba.f5 rfl rfl rfl rfl rfl rfl rfl ⟨rfl, rfl, rfl, rfl, rfl⟩ rfl rfl rfl rfl rfl (by kernel_rfl) Yba.func5 (by kernel_rfl)
    (of_decide_eq_true (by kernel_rfl)) (by unfold Func.isWrapper; first | (rw [if_pos (by decide +kernel)]; kernel_rfl) | (rw [if_neg (by decide +kernel)]; exact ⟨rfl, rfl⟩))
    (fun os started H enc _ => lifted os started H enc)

/-- ████ THE STATEMENT ████ -/
theorem proved : Rows.LawS3351CModelSaid := over
#print axioms proved
end Go.Proofs.Ybulkbqjk.lawS3351CModel
