import Derived.Test.YbulkbqiwExact
import Derived.Deep.CutRange
namespace Go.Proofs.Ybulkbqiw
open Go.RowKit Go.MuLone
set_option linter.unusedVariables false

theorem forget {P : Program} {f : Nat} {args : Array Value} {Q : Ending → World → Prop} {W : World} (R : World → Prop) (h : R W) (k : ∀ W, R W → Calls P f args W Q) : Calls P f args W Q := k W h
theorem Yba.size22 : (Yba.prog.info? 22).map (·.size) = some 16 := by kernel_rfl

theorem rangeAt_of_heap {w w' : World} {b o : Nat} {cs : List Value} (h : w.rangeAt b o cs) (e : w'.heap[b]? = w.heap[b]?) : w'.rangeAt b o cs := fun j v hv => (World.cell?_of_block (w := w) (w' := w') e).trans (h j v hv)
theorem eq_nil36 (w : World) : (binOp .eql 36 (.slice none 0 0) (.slice none 0 0)).run Yba.prog w = .ok (.bool true) w := by kernel_rfl
theorem eq_nil28 (w : World) : (binOp .eql 28 .nilFunc .nilFunc).run Yba.prog w = .ok (.bool true) w := by kernel_rfl
theorem forgetL {P : Program} {ops : Array Oper} {rest : List Oper} {Q : Exit → Act → World → Prop} {a : Act} {W : World} (R : World → Prop) (h : R W) (k : ∀ W, R W → wpList P ops Q rest a W) : wpList P ops Q rest a W := k W h
theorem there_new (w : World) (c : Array Value) (t : TypeId) (n : Nat) (h : c.size = n) : (w.alloc (.cells c t)).there w.heap.size 0 n := fun j hj => by
  have hb : (w.alloc (.cells c t)).heap[w.heap.size]? = some (.cells c t (0, 0)) := Deep.blk_alloc_new _ _
  have hj' : 0 + j < c.size := by omega
  rw [cell_of_row _ _ _ c t (0, 0) hb]
  refine ⟨by simp at hj'; simp [hj'], ?_⟩
  unfold World.frozen?
  simp only [hb]
  simp
theorem there_new' (w : World) (c : Array Value) (t : TypeId) (n b : Nat) (h : c.size = n) (hb : b = w.heap.size) : (w.alloc (.cells c t)).there b 0 n := by subst hb; exact there_new w c t n h
theorem size_setCells (b : Nat) : ∀ (vs : List Value) (o : Nat) (w : World), (w.setCells b o vs).heap.size = w.heap.size
  | [], _, _ => rfl
  | v :: r, o, w => by rw [World.setCells, size_setCells b r (o + 1)]; simp
theorem below_setCells {B b : Nat} (hB : B ≤ b) : ∀ (vs : List Value) (o : Nat) {w w' : World}, Below B w w' → Below B w (w'.setCells b o vs)
  | [], _, _, _, h => h
  | v :: r, o, _, _, h => below_setCells hB r (o + 1) (h.setCell hB v)
theorem heap_setCells {b k : Nat} (hk : k ≠ b) : ∀ (vs : List Value) (o : Nat) (w : World), (w.setCells b o vs).heap[k]? = w.heap[k]?
  | [], _, _ => rfl
  | v :: r, o, w => by rw [World.setCells, heap_setCells hk r (o + 1)]; exact Below.heap_setCell _ _ _ _ hk

/-- The law's world behind its first statements: the argument's block, rinc's block. -/
def At1 (w : World) (own heard : List Int) (hA : Bool) (nx sent cur : Int) (rs : Bool) (ak : Int) (rinc : List Int) (first : Int) (same : Bool) (X : List Value) (W : World) : Prop :=
  Arg W w.heap.size own heard hA nx sent cur rs ak rinc first same ∧ W.rangeAt (w.heap.size + 1) 0 X ∧ W.there (w.heap.size + 1) 0 16 ∧ Below w.heap.size w W ∧ W.heap.size = w.heap.size + 2
theorem at1_first {w : World} {own heard : List Int} {hA : Bool} {nx sent cur : Int} {rs : Bool} {ak : Int} {rinc : List Int} {first : Int} {same : Bool} {A : Array Value} (h : Arg (w.alloc (.cells A 25)) w.heap.size own heard hA nx sent cur rs ak rinc first same)
    {C : Array Value} (hC : C.size = 16) {X : List Value} (hX : X.length = 16) : At1 w own heard hA nx sent cur rs ak rinc first same X (((w.alloc (.cells A 25)).alloc (.cells C 26)).setCells (w.heap.size + 1) 0 X) := by
  have ht : ((w.alloc (.cells A 25)).alloc (.cells C 26)).there (w.heap.size + 1) 0 16 := by
    have := there_new (w.alloc (.cells A 25)) C 26 16 hC
    simpa using this
  refine ⟨?_, World.rangeAt_setCells_same _ _ _ _ (by rw [hX]; exact ht), World.there_setCells ht _ _ _, below_setCells (by omega) _ _ (((Below.refl _ _).alloc (Nat.le_refl _) _).alloc (by simp) _), by rw [size_setCells]; simp⟩
  unfold Arg at h ⊢
  rw [heap_setCells (by omega), Below.heap_alloc _ _ _ (by simp)]
  exact h
theorem at1_next {w W : World} {own heard : List Int} {hA : Bool} {nx sent cur : Int} {rs : Bool} {ak : Int} {rinc : List Int} {first : Int} {same : Bool} {X Y : List Value} (h : At1 w own heard hA nx sent cur rs ak rinc first same X W) (hY : Y.length = 16) :
    At1 w own heard hA nx sent cur rs ak rinc first same Y (W.setCells (w.heap.size + 1) 0 Y) := by
  obtain ⟨h1, h2, h3, h4, h5⟩ := h
  refine ⟨?_, World.rangeAt_setCells_same _ _ _ _ (by rw [hY]; exact h3), World.there_setCells h3 _ _ _, below_setCells (by omega) _ _ h4, by rw [size_setCells]; exact h5⟩
  unfold Arg at h1 ⊢
  rw [heap_setCells (by omega)]
  exact h1

set_option maxRecDepth 100000 in
set_option maxHeartbeats 2000000 in
theorem exact_other (own heard rinc : List Int) (hA : Bool) (nx sent cur : Int) (rs : Bool) (ak : Int) (first : Int) (w : World) (hO : Inc own) (hH : Inc heard) (hR : Inc rinc) (A : Array Value)
    (hAr : A = (argCells own heard hA nx sent cur rs ak rinc first false).toArray) :
    Calls Yba.prog 3 #[.agg A] w fun e w' => e = .returned (.bool true) ∧ Below w.heap.size w w' := by
  have harg : Arg (w.alloc (.cells A 25)) w.heap.size own heard hA nx sent cur rs ak rinc first false := by rw [hAr]; exact Deep.blk_alloc_new _ _
  obtain ⟨X, hX⟩ : ∃ X, X = bv rinc := ⟨_, rfl⟩
  obtain ⟨Y, hY⟩ : ∃ Y, Y = bv heard := ⟨_, rfl⟩
  obtain ⟨Z, hZ⟩ : ∃ Z, Z = bv own := ⟨_, rfl⟩
  have HARG : Hid (Arg (w.alloc (.cells A 25)) w.heap.size own heard hA nx sent cur rs ak rinc first false) := harg
  clear harg hAr
  obtain ⟨c32, c33, c34, c35, c36, c37, c54, c55⟩ := HARG.out.cells hO hH hR
  obtain ⟨q0, q1, q2⟩ := HARG.out.ranges hO hH hR
  rw [← hX] at q2
  rw [← hY] at q1
  rw [← hZ] at q0
  have iX : (Yba.prog.info? 22).map (·.size) = some X.length := by rw [hX, bv_len hR]; exact Yba.size22
  have iY : (Yba.prog.info? 22).map (·.size) = some Y.length := by rw [hY, bv_len hH]; exact Yba.size22
  have iZ : (Yba.prog.info? 22).map (·.size) = some Z.length := by rw [hZ, bv_len hO]; exact Yba.size22
  have jX : (Yba.prog.info? 26).map (·.size) = some X.length := by rw [hX, bv_len hR]; exact Yba.size26
  have lX : X.length = 16 := by rw [hX]; exact bv_len hR
  have zX : X.toArray.size = 16 := by simp [lX]
  have oX : X.toArray.all (·.oneCell') = true := by rw [hX]; exact all_oneCell_toArray (bv_one _)
  obtain ⟨M, hM, hM'⟩ : ∃ M, Yba.prog.built 38 [(0, .agg Z.toArray), (6, .agg Y.toArray), (7, .bool hA), (8, .int .u64 nx), (3, .int .u64 sent), (9, .int .u64 cur), (10, .bool rs), (11, .int .u64 ak)] = some M ∧ M = (sessCells own 0 sent heard hA nx cur rs ak).toArray := ⟨_, by rw [hZ, hY]; exact built_sess own heard sent nx cur ak hA rs hO hH, rfl⟩
  obtain ⟨R, hRb, hR'⟩ : ∃ R, Yba.prog.built 41 [(0, .agg X.toArray), (1, .int .u64 first)] = some R ∧ R.toList = bv rinc ++ [.int .u64 first] := ⟨_, by rw [hX]; exact built_resume rinc first hR, rfl⟩
  have HM : Hid (M = (sessCells own 0 sent heard hA nx cur rs ak).toArray) := hM'
  have HRR : Hid (R.toList = bv rinc ++ [.int .u64 first]) := hR'
  have HX : Hid (X = bv rinc) := hX
  have HY : Hid (Y = bv heard) := hY
  have HZ : Hid (Z = bv own) := hZ
  clear hX hY hZ hM' hR' c32 c33 c34 c35 c36 c37 c54 c55 q0 q1
  go_enter Yba.func3, Yba.ntmps3
  have ht0 : ((w.alloc (.cells A 25)).alloc (.cells #[.int .u8 0, .int .u8 0, .int .u8 0, .int .u8 0, .int .u8 0, .int .u8 0, .int .u8 0, .int .u8 0, .int .u8 0, .int .u8 0, .int .u8 0, .int .u8 0, .int .u8 0, .int .u8 0, .int .u8 0, .int .u8 0] 26)).there (w.heap.size + 1) 0 X.toArray.size := by rw [zX]; exact there_new' (w.alloc (.cells A 25)) _ 26 16 _ rfl (by simp)
  have i26 : (Yba.prog.info? 26).map (·.size) = some X.toArray.size := by rw [zX]; exact Yba.size26
  go_wp2_with (first
    | refine wpList_load_mid rfl 22 (.tmp 6) rfl w.heap.size 38 rfl X _ q2 Yba.underlying22 rfl iX ?_
    | (refine wpList_store_mid rfl 26 (.tmp 3) (.tmp 7) rfl (w.heap.size + 1) 0 X.toArray rfl rfl ht0 i26 oX ?_
       refine forgetL (At1 w own heard hA nx sent cur rs ak rinc first false X) (at1_first HARG.out rfl lX) ?_
       clear q2 HARG ht0
       rintro W1 HW1
       obtain ⟨d32, d33, d34, d35, d36, d37, d54, d55⟩ := HW1.1.cells hO hH hR
       obtain ⟨q0, q1, _⟩ := HW1.1.ranges hO hH hR
       rw [← HY.out] at q1
       rw [← HZ.out] at q0
       have q3 := HW1.2.1
       have s1 := HW1.2.2.2.2
       have HAT : Hid (At1 w own heard hA nx sent cur rs ak rinc first false X W1) := HW1
       clear HW1)
    | refine wpList_load_mid rfl 22 (.tmp 12) rfl w.heap.size 0 rfl Z _ q0 Yba.underlying22 rfl iZ ?_
    | refine wpList_load_mid rfl 22 (.tmp 14) rfl w.heap.size 16 rfl Y _ q1 Yba.underlying22 rfl iY ?_
    | refine wpList_built rfl 38 #[(0, .tmp 13), (6, .tmp 15), (7, .tmp 17), (8, .tmp 19), (3, .tmp 21), (9, .tmp 23), (10, .tmp 25), (11, .tmp 27)] rfl [(0, .agg Z.toArray), (6, .agg Y.toArray), (7, .bool hA), (8, .int .u64 nx), (3, .int .u64 sent), (9, .int .u64 cur), (10, .bool rs), (11, .int .u64 ak)] (by simp [Act.eval]) M hM ?_
    | refine wpList_load_mid rfl 26 (.tmp 3) rfl (w.heap.size + 1) 0 rfl X _ (World.rangeAt_alloc q3 (.cells M 38)) Yba.underlying26 rfl jX ?_
    | refine wpList_built rfl 41 #[(0, .tmp 31), (1, .tmp 33)] rfl [(0, .agg X.toArray), (1, .int .u64 first)] (by simp [Act.eval]) R hRb ?_)
  have hS1 : Sess 38 (W1.alloc (.cells M 38)) (w.heap.size + 2) own 0 sent heard hA nx cur rs ak := by
    rw [HM.out, ← s1]
    exact Deep.blk_alloc_new _ _
  refine (resumed_any (w.heap.size + 2) own heard rinc sent nx cur ak first hA rs R _ hO hH hR hS1 HRR.out).mono ?_
  clear hS1 hM hRb d32 d33 d34 d35 d36 d37 d54 d55 q0 q1 q3
  rintro e W2 ⟨rfl, hS2, hT2⟩
  have hsz : (W1.alloc (.cells M 38)).heap.size = w.heap.size + 3 := by simp [s1]
  have b0 : W2.heap[w.heap.size]? = W1.heap[w.heap.size]? := (hT2.block _ (by omega) (by omega)).trans (Below.heap_alloc _ _ _ (by omega))
  have b1 : W2.heap[w.heap.size + 1]? = W1.heap[w.heap.size + 1]? := (hT2.block _ (by omega) (by omega)).trans (Below.heap_alloc _ _ _ (by omega))
  have hArg : Arg W2 w.heap.size own heard hA nx sent cur rs ak rinc first false := b0.trans HAT.out.1
  have q3 : W2.rangeAt (w.heap.size + 1) 0 X := rangeAt_of_heap HAT.out.2.1 b1
  have hbel : Below w.heap.size w W2 := (HAT.out.2.2.2.1.alloc (by omega) _).trans (hT2.below (by omega) (by omega))
  obtain ⟨d32, d33, d34, d35, d36, d37, d54, d55⟩ := hArg.cells hO hH hR
  obtain ⟨q0, q1, q2⟩ := hArg.ranges hO hH hR
  have e16 := hS2.c16 hO
  have e19 := hS2.c19 hO
  have e20 := hS2.c20 hO
  have e21 := hS2.c21 hO
  have e38 := hS2.c38 hO hR
  have e39 := hS2.c39 hO hR
  have e40 := hS2.c40 hO hR
  have e41 := hS2.c41 hO hR
  have e42 := hS2.c42 hO hR
  have qh := hS2.heardAt hO
  have qo := hS2.ownAt
  rw [← HX.out] at qh
  rw [← HZ.out] at q0 qo
  rw [← HY.out] at q1
  have jZ : (Yba.prog.info? 26).map (·.size) = some Z.length := by rw [HZ.out, bv_len hO]; exact Yba.size26
  have eXX : ∀ w, (Op.equalIn 10000 26 (.agg X.toArray) (.agg X.toArray)).run Yba.prog w = .ok true w := fun w => by rw [HX.out, eq26 hR hR]; simp
  have eZZ : ∀ w, (Op.equalIn 10000 26 (.agg Z.toArray) (.agg Z.toArray)).run Yba.prog w = .ok true w := fun w => by rw [HZ.out, eq26 hO hO]; simp
  have eXY : ∀ w, (Op.equalIn 10000 26 (.agg X.toArray) (.agg Y.toArray)).run Yba.prog w = .ok (decide (rinc = heard)) w := fun w => by rw [HX.out, HY.out, eq26 hR hH]
  have eN := eq_nil36
  have eF := eq_nil28
  obtain ⟨N, hN⟩ : ∃ N, N = nextOf hA rinc heard nx first := ⟨_, rfl⟩
  rw [← hN] at e39
  have HN : Hid (N = nextOf hA rinc heard nx first) := hN
  have HB : Hid (Below w.heap.size w W2) := hbel
  clear hbel hN hT2 hsz b0 b1 hArg HAT s1 hS2 q2 iX
  go_upto_region 7 with fail
  go_cut [46] from 38 to 45 (fun v wx => v = .bool (!hA || !decide (rinc = heard)) ∧ wx = W2)
  case first =>
    cases hA with
    | false =>
      clear eXY
      go_wp2_with fail
      go_meet
      case rel => exact ⟨by simp, rfl⟩
    | true =>
      go_wp2_with (first
        | refine wpList_load_g rfl 26 (.tmp 3) rfl (w.heap.size + 1) 0 rfl X _ q3 Yba.underlying26 rfl jX ?_
        | refine wpList_load_g rfl 22 (.tmp 43) rfl w.heap.size 16 rfl Y _ q1 Yba.underlying22 rfl iY ?_)
      go_meet
      case rel => exact ⟨by simp, rfl⟩
  case rest =>
    obtain ⟨rfl, rfl⟩ := hcut
    have hNB : N = if (!hA || !decide (rinc = heard)) = true then first else nx := by
      rw [HN.out]
      unfold nextOf
      by_cases h1 : hA = true <;> by_cases h2 : rinc = heard <;> simp [h1, h2]
    obtain ⟨B, hB⟩ : ∃ B, B = (!hA || !decide (rinc = heard)) := ⟨_, rfl⟩
    rw [← hB] at hNB ⊢
    have HNB : Hid (N = if B = true then first else nx) := hNB
    clear hB hNB eXY HN
    go_upto_if 46 with fail
    go_cut [5] from 36 to 48 (fun v wx => v = .int .u64 N ∧ wx = wc)
    case first =>
      cases B with
      | true =>
        go_wp2_with fail
        go_meet
        case rel => exact ⟨by rw [HNB.out]; rfl, rfl⟩
      | false =>
        go_wp2_with fail
        go_meet
        case rel => exact ⟨by rw [HNB.out]; rfl, rfl⟩
    case rest =>
      obtain ⟨rfl, rfl⟩ := hcut
      clear HNB
      go_wp2_with fail
      refine wp_region_still_lit Yba.mixed (by kernel_rfl) ?_
      iterate 3 still_step
      refine wpStill_load_mid rfl 26 (.tmp 51) rfl (w.heap.size + 2) 22 rfl X _ qh Yba.underlying26 rfl jX ?_
      simp only [Act.put, List.setIfInBounds_toArray, List.set_cons_zero, List.set_cons_succ]
      refine wpStill_load_mid rfl 26 (.tmp 3) rfl (w.heap.size + 1) 0 rfl X _ q3 Yba.underlying26 rfl jX ?_
      simp only [Act.put, List.setIfInBounds_toArray, List.set_cons_zero, List.set_cons_succ]
      iterate 34 still_step
      refine wpStill_load_mid rfl 26 (.tmp 87) rfl (w.heap.size + 2) 0 rfl Z _ qo Yba.underlying26 rfl jZ ?_
      simp only [Act.put, List.setIfInBounds_toArray, List.set_cons_zero, List.set_cons_succ]
      still_step
      refine wpStill_load_mid rfl 22 (.tmp 89) rfl w.heap.size 0 rfl Z _ q0 Yba.underlying22 rfl iZ ?_
      simp only [Act.put, List.setIfInBounds_toArray, List.set_cons_zero, List.set_cons_succ]
      iterate 42 still_step
      refine wpStill_nil ?_
      go_wp2
      go_ret
      exact ⟨rfl, HB.out.drew⟩
end Go.Proofs.Ybulkbqiw
