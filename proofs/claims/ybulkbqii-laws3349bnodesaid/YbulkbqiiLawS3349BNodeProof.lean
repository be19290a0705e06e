/-
  THE PROOF OF 'Rows.LawS3349BNodeSaid'. The frame is the guide's own (howto/template/XProofs.lean, as the shell of the sister law has it), turned to a slice of structs of three one-cell fields.
-/
import Derived.Test.YbulkbqiiNodeWalk
import Derived.WalkKit
import Derived.ProofKit
import Derived.OpenShut
import Derived.ShutString
import Derived.ChangeOld
import Derived.Below
import Derived.Deep.Slices
import Derived.Deep.Strs
namespace Go.Proofs.Ybulkbqii.lawS3349BNode
open Go.ChangeShapes Go.WideShapes Go.ChangeAt Go.RowKit Go.Deep
set_option linter.unusedVariables false

theorem own : ownKnob Yba.prog.godebug = none := by kernel_rfl
theorem laidOut : laidOutB Yba.prog = true := by kernel_rfl
theorem cells27 : Yba.prog.cellsOf 27 = 3 := by kernel_rfl
theorem cells5 : Yba.prog.cellsOf 5 = 1 := by kernel_rfl
theorem cells21 : Yba.prog.cellsOf 21 = 1 := by kernel_rfl

/-- More than 1024 nodes: the law answers true at once. -/
theorem node_big (a0 : Option Addr) (len cap : Nat) (pick : Int) (w : World) (hlen : 1024 < len) :
    Calls Yba.prog 3 #[.slice a0 len cap, .int .u32 pick] w fun e w' => e = .returned (.bool true) ∧ Below w.heap.size w w' := by
  have h : (1024 : Int) < (len : Int) := by omega
  go_enter Yba.func3, Yba.ntmps3
  go_wp2
  go_ret
  exact ⟨rfl, Below.refl _ _⟩

/-- What the walk is told of the slice of nodes that came in. -/
def IsNodes (w : World) (a0 : Option Addr) (len : Nat) (O A E : Nat → Int) : Prop :=
  (∀ i, 0 ≤ O i ∧ O i ≤ 255) ∧ (∀ i, -2147483648 ≤ A i ∧ A i ≤ 2147483647) ∧ (∀ i, -2147483648 ≤ E i ∧ E i ≤ 2147483647) ∧
    (0 < len → ∃ b off, a0 = some ⟨b, off, none⟩ ∧ b < w.heap.size ∧ ∀ i, i < len → w.cell? ⟨b, off + i * 3, none⟩ = some (.int .u8 (O i)) ∧ w.cell? ⟨b, off + i * 3 + 1, none⟩ = some (.int .i32 (A i)) ∧ w.cell? ⟨b, off + i * 3 + 2, none⟩ = some (.int .i32 (E i)))

/-- One node that came in. -/
theorem open_node {H : Type} {enc : TypeId × Value → H} {w : World} {a : Addr} {i n : Nat} {cs : List Value} {x : DataW H × List MemPlace}
    (hc : w.cells? 0 (a.add (i * 3)) 3 = some cs) (h : DataW.trod enc Yba.prog w 0 (fun _ => true) true n 27 cs = some x) :
    ∃ t : Int × Int × Int, (0 ≤ t.1 ∧ t.1 ≤ 255) ∧ (-2147483648 ≤ t.2.1 ∧ t.2.1 ≤ 2147483647) ∧ (-2147483648 ≤ t.2.2 ∧ t.2.2 ≤ 2147483647) ∧
      w.cell? (a.add (i * 3)) = some (.int .u8 t.1) ∧ w.cell? (a.add (i * 3 + 1)) = some (.int .i32 t.2.1) ∧ w.cell? (a.add (i * 3 + 2)) = some (.int .i32 t.2.2) := by
  obtain ⟨y0, y1, y2, m, _, hl, h0, h1, h2⟩ := trod_struct3 Yba.underlying27 h
  rw [cells27] at hl
  match cs, hl with
  | [v0, v1, v2], _ =>
    simp only [cells5, cells21, List.drop_zero, List.drop_succ_cons, List.take_succ_cons, List.take_zero] at h0 h1 h2
    obtain ⟨o, e0, _, wo⟩ := DataW.trod_int Yba.underlying5 h0
    obtain ⟨t, e1, _, wt⟩ := DataW.trod_int Yba.underlying21 h1
    obtain ⟨u, e2, _, wu⟩ := DataW.trod_int Yba.underlying21 h2
    simp only [List.cons.injEq, and_true] at e0 e1 e2
    subst e0 e1 e2
    obtain ⟨_, _, hcell⟩ := World.cells?_some hc
    have g0 := hcell 0 (by omega)
    have g1 := hcell 1 (by omega)
    have g2 := hcell 2 (by omega)
    rw [add_add] at g0 g1 g2
    exact ⟨(o, t, u), bounds_u8 wo, bounds_i32 wt, bounds_i32 wu, by simpa using g0, by simpa using g1, by simpa using g2⟩

theorem open_nodes {H : Type} {enc : TypeId × Value → H} {w : World} {a0 : Option Addr} {len cap fuel : Nat} {x : DataW H × List MemPlace}
    (h : DataW.trod enc Yba.prog w 0 (fun _ => true) true fuel 22 [.slice a0 len cap] = some x) : ∃ O A E, IsNodes w a0 len O A E := by
  rcases open_slice Yba.underlying22 h with ⟨hcs, _⟩ | ⟨a, l, c, m, n, D, Pl, hcs, _, hl, _, hm, _, hx⟩
  · simp only [List.cons.injEq, Value.slice.injEq, and_true] at hcs
    obtain ⟨_, rfl, _⟩ := hcs
    exact ⟨fun _ => 0, fun _ => 0, fun _ => 0, fun _ => by simp, fun _ => by simp, fun _ => by simp, fun h => by omega⟩
  · simp only [List.cons.injEq, Value.slice.injEq, and_true] at hcs
    obtain ⟨rfl, rfl, rfl⟩ := hcs
    simp only [if_true] at hm
    subst hm
    rw [cells27] at hx
    have hx' : ∀ i, i < len → ∃ t : Int × Int × Int, (0 ≤ t.1 ∧ t.1 ≤ 255) ∧ (-2147483648 ≤ t.2.1 ∧ t.2.1 ≤ 2147483647) ∧ (-2147483648 ≤ t.2.2 ∧ t.2.2 ≤ 2147483647) ∧
      w.cell? (a.add (i * 3)) = some (.int .u8 t.1) ∧ w.cell? (a.add (i * 3 + 1)) = some (.int .i32 t.2.1) ∧ w.cell? (a.add (i * 3 + 2)) = some (.int .i32 t.2.2) := fun i hi => by
      obtain ⟨cs', h1, h2⟩ := hx i (by omega)
      exact open_node h1 h2
    obtain ⟨f, hf⟩ := choose_lt hx'
    refine ⟨fun i => if i < len then (f i).1 else 0, fun i => if i < len then (f i).2.1 else 0, fun i => if i < len then (f i).2.2 else 0, fun i => ?_, fun i => ?_, fun i => ?_, fun hpos => ?_⟩
    · by_cases hi : i < len
      · simpa [hi] using (hf i hi).1
      · simp [hi]
    · by_cases hi : i < len
      · simpa [hi] using (hf i hi).2.1
      · simp [hi]
    · by_cases hi : i < len
      · simpa [hi] using (hf i hi).2.2.1
      · simp [hi]
    · have c0 := (hf 0 hpos).2.2.2.1
      obtain ⟨b, off, spot⟩ := a
      have hspot : spot = none := by simpa [Addr.add] using World.cell?_spot c0
      subst hspot
      have hc' : ∀ i, i < len → w.cell? ⟨b, off + i * 3, none⟩ = some (.int .u8 (f i).1) ∧ w.cell? ⟨b, off + i * 3 + 1, none⟩ = some (.int .i32 (f i).2.1) ∧ w.cell? ⟨b, off + i * 3 + 2, none⟩ = some (.int .i32 (f i).2.2) := fun i hi => by
        have := (hf i hi).2.2.2
        simpa only [add_plain, Nat.add_assoc] using this
      refine ⟨b, off, rfl, ?_, fun i hi => by simpa [hi] using hc' i hi⟩
      exact World.block_lt_of_cell? _ _ (hc' 0 hpos).1

theorem walk (a0 : Option Addr) (len cap : Nat) (O A E : Nat → Int) (pick : Int) (w : World) (w0 : IsNodes w a0 len O A E) (w1 : (Lit.int .u32 pick).wf = true) :
    Calls Yba.prog 3 #[.slice a0 len cap, .int .u32 pick] w fun e w' => e = .returned (.bool true) ∧ Below w.heap.size w w' := by
  have hi := bounds_u32 w1
  by_cases hbig : 1024 < len
  · exact node_big a0 len cap pick w hbig
  · exact node_small a0 len cap O A E pick w (by omega) (by omega) (by omega) w0.1 w0.2.1 w0.2.2.1 w0.2.2.2

set_option maxRecDepth 100000 in
theorem lifted (os : Os) (started : os.Started) (H : Type) (enc : TypeId × Value → H) :
    ReturnsInHanded {} Yba.checked os 3 .any (Rows.lawS3349BNodeSpec.pre6 enc Yba.prog Yba.f3 Rows.lawS3349BNodeRow.domain false) (Rows.lawS3349BNodeSpec.post enc Yba.prog Yba.f3 false true false false) := by
  refine returnsInHanded_of_change (C := Yba.checked) own started (by kernel_rfl) Yba.func3
    (ChangeSpec.witness6 (enc := enc) (C := Yba.checked) false ⟨#[], #[.slice none 0 0, .int .u32 0], []⟩ 8 (by kernel_rfl) (by kernel_rfl) (by kernel_rfl) (by kernel_rfl)) ?_
  intro W base args ds gs before hval0 hW hcnd _
  have hval : ∀ (j : Nat) t v, Yba.f3.params[j]? = some t → args[j]? = some v → Value.okWide Yba.prog W .any base t v := hval0
  have hW' := hW
  obtain ⟨p, q, hA0, hV, rfl, hfz, hnd⟩ := hW
  have hA : DataW.TrodAll enc Yba.prog W 0 (fun _ => true) true Yba.f3.params.toList args.toList ds p := hA0
  rw [Yba.params3] at hA hval
  obtain ⟨v0, vs0, d0, ds0, p0, q0, hargs, rfl, rfl, h0, r0⟩ := trodAll_cons hA
  obtain ⟨v1, vs1, d1, ds1, p1, q1, rfl, rfl, rfl, h1, r1⟩ := trodAll_cons r0
  obtain ⟨rfl, rfl, rfl⟩ := trodAll_nil r1
  obtain rfl : args = #[v0, v1] := by cases args; simp_all
  obtain ⟨rfl, rfl⟩ := trodVars_none hV
  obtain ⟨a0, len0, cap0, rfl⟩ := okWide_slice Yba.underlying22 (hval 0 22 v0 rfl rfl)
  have k0 := h0
  have lt0 : ∀ x ∈ p0, x.block < W.heap.size := by obtain ⟨m, hm⟩ := k0; exact DataW.trod_lt m _ _ _ hm
  obtain ⟨O, A, E, w0⟩ : ∃ O A E, IsNodes W a0 len0 O A E := by
    obtain ⟨fuel, hf⟩ := h0
    exact open_nodes (cap := cap0) (by simpa [Value.cells] using hf)
  obtain ⟨a1, rfl, rfl, rfl, w1⟩ := open_int Yba.underlying23 (hval 1 23 v1 rfl rfl) h1
  clear hA0 hval0
  refine (walk a0 len0 cap0 O A E a1 W w0 w1).mono fun e W' ⟨he, bel⟩ => ?_
  subst he
  exact ⟨_, rfl, _, _, _, [], _, [], hW', trodAll_mk1 (shut_bool Yba.underlying4 _), (trodAll_cons_mk (Below.trod laidOut (by kernel_rfl) (of_decide_eq_true (by kernel_rfl)) k0 bel lt0) (trodAll_cons_mk (shut_int Yba.underlying23 w1) trodAll_mk0)), rfl, bel.frame _, fun h => by cases h⟩

theorem over : Rows.lawS3349BNodeRow.holds Yba.pinned (OpenSpec.ofChange Rows.lawS3349BNodeSpec) :=
  OpenClaim.holds_of_wide 3 Yba.f3 rfl rfl rfl rfl rfl rfl rfl ⟨rfl, rfl, rfl, rfl, rfl⟩ rfl rfl rfl rfl rfl (by kernel_rfl) Yba.func3 (by kernel_rfl)
    (of_decide_eq_true (by kernel_rfl)) (by unfold Func.isWrapper; first | (rw [if_pos (by decide +kernel)]; kernel_rfl) | (rw [if_neg (by decide +kernel)]; exact ⟨rfl, rfl⟩))
    (fun os started H enc _ => lifted os started H enc)

/-- ████ THE STATEMENT ████ -/
theorem proved : Rows.LawS3349BNodeSaid := over
#print axioms proved
end Go.Proofs.Ybulkbqii.lawS3349BNode
