import Derived.Test.YbulkbqnsRows
import Derived.WalkKit
import Derived.ProofKit
import Derived.OpenShut
import Derived.ShutString
namespace Go.Proofs.Ybulkbqns.lawS3359AExact
open Go.ChangeShapes Go.WideShapes Go.ChangeAt Go.RowKit
open Go.ChangeMaps (open_string shut_string)
set_option linter.unusedVariables false      -- a walk need not use every 'w<i>' (that an integer argument fits its kind)

theorem own : ownKnob Yba.prog.godebug = none := by kernel_rfl

theorem Grown.of_trans {w w1 w2 : World} (h : Grown w w1) (g : Grown w1 w2) : Grown w w2 :=
  ⟨World.keptBut_trans h.1 g.1, fun a => (g.2.1 a).trans (h.2.1 a), Nat.le_trans h.2.2 g.2.2⟩

/-- override over int64, next not set. -/
theorem over_int_unset (x y : Int) (o : Bool) (w : World) : Calls Yba.prog 5 #[.agg #[.int .i64 x, .bool o], .agg #[.int .i64 y, .bool false]] w fun e w' => e = .returned (.agg #[.int .i64 x, .bool o]) ∧ Grown w w' := by
  go_enter Yba.func5, Yba.ntmps5
  go_wp2
  (try simp only [Exit.inBlock, Exit.then])
  refine bodyPost_ret_by (v := .agg #[.int .i64 x, .bool o]) ?hr rfl ?_
  case hr => simp [results, Yba.results5, go_sem]
  exact ⟨rfl, (((Grown.refl w).alloc _ _).alloc _ _).alloc _ _⟩

/-- override over int64, next set. -/
theorem over_int_set (x y : Int) (o : Bool) (w : World) : Calls Yba.prog 5 #[.agg #[.int .i64 x, .bool o], .agg #[.int .i64 y, .bool true]] w fun e w' => e = .returned (.agg #[.int .i64 y, .bool true]) ∧ Grown w w' := by
  go_enter Yba.func5, Yba.ntmps5
  go_wp2
  (try simp only [Exit.inBlock, Exit.then])
  refine bodyPost_ret_by (v := .agg #[.int .i64 y, .bool true]) ?hr rfl ?_
  case hr => simp [results, Yba.results5, go_sem]
  exact ⟨rfl, (((Grown.refl w).alloc _ _).alloc _ _).alloc _ _⟩

/-! ### STEP 1: THE WALK: the Go text returns true. 'Grown w w'': the world has at most new blocks (Derived/RowKit3.lean). Part the cases AHEAD of 'go_enter' where a test parts the walk; take each callee by a contract of your own. -/
theorem walk (a0 : Int) (a1 : Bool) (a2 : Int) (a3 : Bool) (w0 : (Lit.int .i64 a0).wf = true) (w2 : (Lit.int .i64 a2).wf = true) (w : World) :
    Calls Yba.prog 3 #[.int .i64 a0, .bool a1, .int .i64 a2, .bool a3] w fun e w' => e = .returned (.bool true) ∧ Grown w w' := by
  cases a3
  · cases a1 <;>
    · go_enter Yba.func3, Yba.ntmps3
      go_wp2_with fail
      refine (over_int_unset _ _ _ _).mono ?_
      rintro e w1 ⟨rfl, hg⟩
      have hg2 : Grown w w1 := Grown.of_trans (((Grown.refl w).alloc _ _).alloc _ _) hg
      clear hg
      go_wp2
      go_ret
      exact ⟨rfl, hg2.alloc _ _⟩
  · cases a1 <;>
    · go_enter Yba.func3, Yba.ntmps3
      go_wp2_with fail
      refine (over_int_set _ _ _ _).mono ?_
      rintro e w1 ⟨rfl, hg⟩
      have hg2 : Grown w w1 := Grown.of_trans (((Grown.refl w).alloc _ _).alloc _ _) hg
      clear hg
      go_wp2
      go_ret
      exact ⟨rfl, hg2.alloc _ _⟩

/-! ### THE ROW's STEP: WRITTEN OUT: LEAVE IT -/
set_option maxRecDepth 100000 in
theorem lifted (os : Os) (started : os.Started) (H : Type) (enc : TypeId × Value → H) :
    ReturnsInHanded {} Yba.checked os 3 .any (Rows.lawS3359AExactSpec.pre6 enc Yba.prog Yba.f3 Rows.lawS3359AExactRow.domain false) (Rows.lawS3359AExactSpec.post enc Yba.prog Yba.f3 false true false false) := by
  refine returnsInHanded_of_change (C := Yba.checked) own started (by kernel_rfl) Yba.func3
    (ChangeSpec.witness6 (enc := enc) (C := Yba.checked) false ⟨#[], #[.int .i64 0, .bool false, .int .i64 0, .bool false], []⟩ 8 (by kernel_rfl) (by kernel_rfl) (by kernel_rfl) (by kernel_rfl)) ?_
  intro W base args ds gs before hval0 hW hcnd _
  have hval : ∀ (j : Nat) t v, Yba.f3.params[j]? = some t → args[j]? = some v → Value.okWide Yba.prog W .any base t v := hval0
  have hW' := hW
  obtain ⟨p, q, hA0, hV, rfl, hfz, hnd⟩ := hW
  have hA : DataW.TrodAll enc Yba.prog W 0 (fun _ => true) true Yba.f3.params.toList args.toList ds p := hA0
  rw [Yba.params3] at hA hval
  obtain ⟨v0, vs0, d0, ds0, p0, q0, hargs, rfl, rfl, h0, r0⟩ := trodAll_cons hA
  obtain ⟨v1, vs1, d1, ds1, p1, q1, rfl, rfl, rfl, h1, r1⟩ := trodAll_cons r0
  obtain ⟨v2, vs2, d2, ds2, p2, q2, rfl, rfl, rfl, h2, r2⟩ := trodAll_cons r1
  obtain ⟨v3, vs3, d3, ds3, p3, q3, rfl, rfl, rfl, h3, r3⟩ := trodAll_cons r2
  obtain ⟨rfl, rfl, rfl⟩ := trodAll_nil r3
  obtain rfl : args = #[v0, v1, v2, v3] := by cases args; simp_all
  obtain ⟨rfl, rfl⟩ := trodVars_none hV
  obtain ⟨a0, rfl, rfl, rfl, w0⟩ := open_int Yba.underlying2 (hval 0 2 v0 rfl rfl) h0
  obtain ⟨a1, rfl, rfl, rfl⟩ := open_bool Yba.underlying4 (hval 1 4 v1 rfl rfl) h1
  obtain ⟨a2, rfl, rfl, rfl, w2⟩ := open_int Yba.underlying2 (hval 2 2 v2 rfl rfl) h2
  obtain ⟨a3, rfl, rfl, rfl⟩ := open_bool Yba.underlying4 (hval 3 4 v3 rfl rfl) h3
  clear hA0 hval0
  simp only [List.append_nil] at hW'
  refine (walk a0 a1 a2 a3 w0 w2 W).mono fun e W' ⟨he, hg⟩ => ?_
  subst he
  exact ⟨_, rfl, post_of_same (pa := []) (pv := []) hW' (fun _ _ _ => (trodAll_cons_mk (shut_bool Yba.underlying4 _) trodAll_mk0)) (fun sp _ => (trodAll_cons_mk (shut_int Yba.underlying2 w0) (trodAll_cons_mk (shut_bool Yba.underlying4 _) (trodAll_cons_mk (shut_int Yba.underlying2 w2) (trodAll_cons_mk (shut_bool Yba.underlying4 _) trodAll_mk0))))) (fun _ _ => rfl) rfl
    (hg.frame _) hg.2.1 (ok_one (by kernel_rfl) rfl (okWide_bool_mk Yba.underlying4 _))⟩

theorem over : Rows.lawS3359AExactRow.holds Yba.pinned (OpenSpec.ofChange Rows.lawS3359AExactSpec) :=
  OpenClaim.holds_of_wide 3 Yba.f3 rfl rfl rfl rfl rfl rfl rfl ⟨rfl, rfl, rfl, rfl, rfl⟩ rfl rfl rfl rfl rfl (by kernel_rfl) Yba.func3 (by kernel_rfl)
    (of_decide_eq_true (by kernel_rfl)) (by unfold Func.isWrapper; first | (rw [if_pos (by decide +kernel)]; kernel_rfl) | (rw [if_neg (by decide +kernel)]; exact ⟨rfl, rfl⟩))
    (fun os started H enc _ => lifted os started H enc)

/-- ████ THE STATEMENT ████ -/
theorem proved : Rows.LawS3359AExactSaid :=
  over
#print axioms proved
end Go.Proofs.Ybulkbqns.lawS3359AExact
