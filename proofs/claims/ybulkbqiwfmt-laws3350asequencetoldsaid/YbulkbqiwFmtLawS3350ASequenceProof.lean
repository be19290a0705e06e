/-
  THE PROOF OF 'Rows.LawS3350ASequenceToldSaid' (a told card). The frame is the guide's own (HexbadTold.lean, HexbadSeven.lean), turned to three arrays by value, two uint64, a byte and a bool. The law's road never comes to fmt: the call of fmt.Errorf in Session.Fresh stands on a way that the law does not take.
-/
import Derived.Test.YbulkbqiwFmtSeq
import Derived.Test.YbulkbqiwFmtCards
import Derived.WalkKit
import Derived.ProofKit
import Derived.OpenShut
import Derived.ShutString
import Derived.ChangeOld
import Derived.Below
import Derived.Stop.JoinedTold
import Derived.SevenToldRow
namespace Go.Proofs.YbulkbqiwFmt.lawS3350ASequence
open Go.ChangeShapes Go.WideShapes Go.ChangeAt Go.RowKit
open Go.Extern.Stop Go.Stop Go.Extern
set_option linter.unusedVariables false

theorem own : ownKnob Ybaf.prog.godebug = none := by kernel_rfl
theorem laidOut : laidOutB Ybaf.pinned.checked.prog = true := by kernel_rfl
theorem laidOut' : laidOutB Ybaf.prog = true := by kernel_rfl
theorem stops : Ybaf.pinned.checked.prog.stops = ["fmt.errorf"] := by kernel_rfl
theorem stopKnobs : Ybaf.pinned.checked.prog.stopKnobs = [] := by kernel_rfl
theorem quiet (os : Os) : Stop.quiet Ybaf.pinned.checked.prog os := by
  intro k hk
  rw [stopKnobs] at hk
  cases hk
theorem cells22 : Ybaf.prog.cellsOf 22 = 16 := by kernel_rfl

section
variable {H : Type} {enc : TypeId × Value → H} {w : World} {fuel : Nat} {cs : List Value} {x : DataW H × List MemPlace}

/-- The number in a cell. -/
def numOf : Value → Int
  | .int _ n => n
  | _ => 0

/-- Sixteen bytes that came in. -/
theorem open_bytes (h : DataW.trod enc Ybaf.prog w 0 (fun _ => true) true fuel 22 cs = some x) : ∃ l, Inc l ∧ cs = bv l := by
  obtain ⟨xs, m, _, _, hl, hxl, hi⟩ := DataW.trod_array Ybaf.underlying22 h
  rw [cells22] at hl
  have each : ∀ i, i < 16 → ∃ n, cs[i]? = some (.int .u8 n) ∧ (Lit.int .u8 n).wf = true := by
    intro i hi16
    have h1 := hi i hi16
    rw [Ybaf.cells5, Nat.mul_one, List.getElem?_eq_getElem (by omega)] at h1
    obtain ⟨n, e, _, hw⟩ := DataW.trod_int Ybaf.underlying5 h1
    refine ⟨n, ?_, hw⟩
    have e2 := congrArg (fun l => l[0]?) e
    simpa [List.getElem?_take, List.getElem?_drop] using e2
  refine ⟨cs.map numOf, ⟨by simp [hl], fun n hn => ?_⟩, ?_⟩
  · obtain ⟨v, hv, rfl⟩ := List.mem_map.1 hn
    obtain ⟨i, hi1, rfl⟩ := List.getElem_of_mem hv
    obtain ⟨n, e, hw⟩ := each i (by omega)
    rw [List.getElem?_eq_getElem hi1] at e
    simp only [Option.some.injEq] at e
    rw [e]
    exact hw
  · apply List.ext_getElem?
    intro i
    by_cases hi1 : i < 16
    · obtain ⟨n, e, _⟩ := each i hi1
      simp [bv, e, numOf]
    · have : cs.length ≤ i := by omega
      simp [bv, List.getElem?_eq_none this]

/-- An array of sixteen bytes, handed over by value. -/
theorem open_array {base : Nat} {v : Value} {d : DataW H} {p : List MemPlace} (hv : Value.okWide Ybaf.prog w .any base 22 v) (h : DataW.Trod enc Ybaf.prog w 0 (fun _ => true) true 22 v d p) : ∃ l, Inc l ∧ v = .agg (bv l).toArray := by
  obtain ⟨A, rfl, hsz⟩ : ∃ A, v = .agg A ∧ A.size = Ybaf.prog.cellsOf 22 := by
    simp only [Value.okWide, Ybaf.underlying22] at hv
    obtain ⟨A, h1, h2, _⟩ := hv
    exact ⟨A, h1, h2⟩
  obtain ⟨fuel, hf⟩ := h
  obtain ⟨l, hI, e⟩ := open_bytes (cs := A.toList) (by simpa [Value.cells] using hf)
  exact ⟨l, hI, by rw [← e]⟩
end

set_option maxRecDepth 100000 in
theorem lifted (os : Os) (started : os.Started) (H : Type) (enc : TypeId × Value → H) :
    ReturnsInTold none {} Ybaf.checked os 3 .any Input.okWide ((OpenSpec.ofChange Rows.lawS3350ASequenceSpec).preRow enc Ybaf.prog Ybaf.f3 [] false []) (fun F => ((OpenSpec.ofChange Rows.lawS3350ASequenceSpec).at F).post enc Ybaf.prog Ybaf.f3 false true false false) (aloneAtReturn Ybaf.prog) nothingAlways := by
  refine returnsInTold_of_row (C := Ybaf.checked) (s := OpenSpec.ofChange Rows.lawS3350ASequenceSpec) (by kernel_rfl) own started (by kernel_rfl) Ybaf.func3
    (OpenSpec.witness_stopped (enc := enc) (C := Ybaf.checked) false ⟨#[], #[.agg #[.int .u8 0, .int .u8 0, .int .u8 0, .int .u8 0, .int .u8 0, .int .u8 0, .int .u8 0, .int .u8 0, .int .u8 0, .int .u8 0, .int .u8 0, .int .u8 0, .int .u8 0, .int .u8 0, .int .u8 0, .int .u8 0], .agg #[.int .u8 0, .int .u8 0, .int .u8 0, .int .u8 0, .int .u8 0, .int .u8 0, .int .u8 0, .int .u8 0, .int .u8 0, .int .u8 0, .int .u8 0, .int .u8 0, .int .u8 0, .int .u8 0, .int .u8 0, .int .u8 0], .agg #[.int .u8 0, .int .u8 0, .int .u8 0, .int .u8 0, .int .u8 0, .int .u8 0, .int .u8 0, .int .u8 0, .int .u8 0, .int .u8 0, .int .u8 0, .int .u8 0, .int .u8 0, .int .u8 0, .int .u8 0, .int .u8 0], .int .u64 0, .int .u64 0, .int .u8 0, .bool false], []⟩ 8 (by kernel_rfl) (by kernel_rfl) (by kernel_rfl) (by kernel_rfl)) ?_
  intro F W base args ds gs before _ hF hval0 hW _ _ _ _ _
  have hval : ∀ (j : Nat) t v, Ybaf.f3.params[j]? = some t → args[j]? = some v → Value.okWide Ybaf.prog W .any base t v := hval0
  have hW' := hW
  obtain ⟨p, q, hA0, hV, rfl, hfz, hnd⟩ := hW
  have hA : DataW.TrodAll enc Ybaf.prog W 0 (fun _ => true) true Ybaf.f3.params.toList args.toList ds p := hA0
  rw [Ybaf.params3] at hA hval
  obtain ⟨v0, vs0, d0, ds0, p0, q0, hargs, rfl, rfl, h0, r0⟩ := trodAll_cons hA
  obtain ⟨v1, vs1, d1, ds1, p1, q1, rfl, rfl, rfl, h1, r1⟩ := trodAll_cons r0
  obtain ⟨v2, vs2, d2, ds2, p2, q2, rfl, rfl, rfl, h2, r2⟩ := trodAll_cons r1
  obtain ⟨v3, vs3, d3, ds3, p3, q3, rfl, rfl, rfl, h3, r3⟩ := trodAll_cons r2
  obtain ⟨v4, vs4, d4, ds4, p4, q4, rfl, rfl, rfl, h4, r4⟩ := trodAll_cons r3
  obtain ⟨v5, vs5, d5, ds5, p5, q5, rfl, rfl, rfl, h5, r5⟩ := trodAll_cons r4
  obtain ⟨v6, vs6, d6, ds6, p6, q6, rfl, rfl, rfl, h6, r6⟩ := trodAll_cons r5
  obtain ⟨rfl, rfl, rfl⟩ := trodAll_nil r6
  obtain rfl : args = #[v0, v1, v2, v3, v4, v5, v6] := by cases args; simp_all
  obtain ⟨rfl, rfl⟩ := trodVars_none hV
  have k0 := h0
  have k1 := h1
  have k2 := h2
  have lt0 : ∀ x ∈ p0, x.block < W.heap.size := by obtain ⟨m, hm⟩ := k0; exact DataW.trod_lt m _ _ _ hm
  have lt1 : ∀ x ∈ p1, x.block < W.heap.size := by obtain ⟨m, hm⟩ := k1; exact DataW.trod_lt m _ _ _ hm
  have lt2 : ∀ x ∈ p2, x.block < W.heap.size := by obtain ⟨m, hm⟩ := k2; exact DataW.trod_lt m _ _ _ hm
  obtain ⟨ow, hO, rfl⟩ := open_array (hval 0 22 v0 rfl rfl) h0
  obtain ⟨i1, hI1, rfl⟩ := open_array (hval 1 22 v1 rfl rfl) h1
  obtain ⟨i2, hI2, rfl⟩ := open_array (hval 2 22 v2 rfl rfl) h2
  obtain ⟨a3, rfl, rfl, rfl, w3⟩ := open_int Ybaf.underlying23 (hval 3 23 v3 rfl rfl) h3
  obtain ⟨a4, rfl, rfl, rfl, w4⟩ := open_int Ybaf.underlying23 (hval 4 23 v4 rfl rfl) h4
  obtain ⟨a5, rfl, rfl, rfl, w5⟩ := open_int Ybaf.underlying5 (hval 5 5 v5 rfl rfl) h5
  obtain ⟨a6, rfl, rfl, rfl⟩ := open_bool Ybaf.underlying4 (hval 6 4 v6 rfl rfl) h6
  clear hA0 hval0
  have b3 := bounds_u64 w3
  have b4 := bounds_u64 w4
  have b5 := bounds_u8 w5
  refine (seq_any ow i1 i2 a3 a4 a5 a6 W hO hI1 hI2 _ _ _ rfl rfl rfl b3.1 (by omega) b4.1 (by omega) b5.1 b5.2).mono fun e W' ⟨he, bel⟩ => ?_
  subst he
  exact ⟨_, rfl, _, _, _, [], _, [], hW', trodAll_mk1 (shut_bool Ybaf.underlying4 _),
    (trodAll_cons_mk (Below.trod laidOut' (by kernel_rfl) (of_decide_eq_true (by kernel_rfl)) k0 bel lt0) (trodAll_cons_mk (Below.trod laidOut' (by kernel_rfl) (of_decide_eq_true (by kernel_rfl)) k1 bel lt1) (trodAll_cons_mk (Below.trod laidOut' (by kernel_rfl) (of_decide_eq_true (by kernel_rfl)) k2 bel lt2)
      (trodAll_cons_mk (shut_int Ybaf.underlying23 w3) (trodAll_cons_mk (shut_int Ybaf.underlying23 w4) (trodAll_cons_mk (shut_int Ybaf.underlying5 w5) (trodAll_cons_mk (shut_bool Ybaf.underlying4 _) trodAll_mk0))))))), rfl, bel.frame _, fun h => by cases h⟩

/-- ████ THE STATEMENT ████ -/
theorem proved : Rows.LawS3350ASequenceToldSaid :=
  Claim7.holds_of_told_any (p := Ybaf.pinned) (s := OpenSpec.ofChange Rows.lawS3350ASequenceSpec) (c := Rows.lawS3350ASequenceRow) 3 Ybaf.f3 "fmt.errorf" [] [] _ _ _ (by kernel_rfl) rfl rfl rfl laidOut (by kernel_rfl) rfl ⟨rfl, rfl, rfl, rfl, rfl, rfl, rfl⟩ rfl rfl (by kernel_rfl) (by kernel_rfl) Ybaf.func3 (by kernel_rfl)
    (of_decide_eq_true (by kernel_rfl)) (of_decide_eq_true (by kernel_rfl)) stops.symm rfl stopKnobs.symm (by kernel_rfl)
    (by kernel_rfl) (by kernel_rfl) (by kernel_rfl) (by kernel_rfl) (by kernel_rfl) (by kernel_rfl) (by kernel_rfl) (by kernel_rfl) (by kernel_rfl) rfl (by kernel_rfl) rfl rfl
    rfl rfl
    rfl (by kernel_rfl) (by kernel_rfl) (by kernel_rfl) (by decide) (by kernel_rfl)
    (OpenClaim.moreEntering_of (by kernel_rfl) (by kernel_rfl) (by kernel_rfl) (by kernel_rfl) (by kernel_rfl) (by kernel_rfl) (by kernel_rfl) (by kernel_rfl) (by kernel_rfl) (by kernel_rfl))
    ⟨_, WideRow.started_initial, quiet _⟩
    (fun os started _ H enc _ => lifted os started H enc)
#print axioms proved
end Go.Proofs.YbulkbqiwFmt.lawS3350ASequence
