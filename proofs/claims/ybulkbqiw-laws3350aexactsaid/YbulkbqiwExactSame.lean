import Derived.Test.YbulkbqiwExactWalk
namespace Go.Proofs.Ybulkbqiw
open Go.RowKit Go.MuLone
set_option linter.unusedVariables false

set_option maxRecDepth 100000 in
set_option maxHeartbeats 2000000 in
theorem exact_same (own heard rinc : List Int) (hA : Bool) (nx sent cur : Int) (rs : Bool) (ak : Int) (first : Int) (w : World) (hO : Inc own) (hH : Inc heard) (hR : Inc rinc) (A : Array Value)
    (hAr : A = (argCells own heard hA nx sent cur rs ak rinc first true).toArray) :
    Calls Yba.prog 3 #[.agg A] w fun e w' => e = .returned (.bool true) ∧ Below w.heap.size w w' := by
  have harg : Arg (w.alloc (.cells A 25)) w.heap.size own heard hA nx sent cur rs ak rinc first true := by rw [hAr]; exact Deep.blk_alloc_new _ _
  obtain ⟨X, hX⟩ : ∃ X, X = bv rinc := ⟨_, rfl⟩
  obtain ⟨Y, hY⟩ : ∃ Y, Y = bv heard := ⟨_, rfl⟩
  obtain ⟨Z, hZ⟩ : ∃ Z, Z = bv own := ⟨_, rfl⟩
  have HARG : Hid (Arg (w.alloc (.cells A 25)) w.heap.size own heard hA nx sent cur rs ak rinc first true) := harg
  clear harg hAr
  obtain ⟨c32, c33, c34, c35, c36, c37, c54, c55⟩ := HARG.out.cells hO hH hR
  obtain ⟨q0, q1, q2⟩ := HARG.out.ranges hO hH hR
  rw [← hX] at q2
  rw [← hY] at q1
  rw [← hZ] at q0
  have iX : (Yba.prog.info? 22).map (·.size) = some X.length := by rw [hX, bv_len hR]; exact Yba.size22
  have iY : (Yba.prog.info? 22).map (·.size) = some Y.length := by rw [hY, bv_len hH]; exact Yba.size22
  have iZ : (Yba.prog.info? 22).map (·.size) = some Z.length := by rw [hZ, bv_len hO]; exact Yba.size22
  have jX : (Yba.prog.info? 26).map (·.size) = some X.length := by rw [hX, bv_len hR]; exact Yba.size26
  have jY : (Yba.prog.info? 26).map (·.size) = some Y.length := by rw [hY, bv_len hH]; exact Yba.size26
  have lY : Y.length = 16 := by rw [hY]; exact bv_len hH
  have zY : Y.toArray.size = 16 := by simp [lY]
  have oY : Y.toArray.all (·.oneCell') = true := by rw [hY]; exact all_oneCell_toArray (bv_one _)
  have i26Y : (Yba.prog.info? 26).map (·.size) = some Y.toArray.size := by rw [zY]; exact Yba.size26
  have lX : X.length = 16 := by rw [hX]; exact bv_len hR
  have zX : X.toArray.size = 16 := by simp [lX]
  have oX : X.toArray.all (·.oneCell') = true := by rw [hX]; exact all_oneCell_toArray (bv_one _)
  obtain ⟨M, hM, hM'⟩ : ∃ M, Yba.prog.built 38 [(0, .agg Z.toArray), (6, .agg Y.toArray), (7, .bool hA), (8, .int .u64 nx), (3, .int .u64 sent), (9, .int .u64 cur), (10, .bool rs), (11, .int .u64 ak)] = some M ∧ M = (sessCells own 0 sent heard hA nx cur rs ak).toArray := ⟨_, by rw [hZ, hY]; exact built_sess own heard sent nx cur ak hA rs hO hH, rfl⟩
  obtain ⟨R, hRb, hR'⟩ : ∃ R, Yba.prog.built 41 [(0, .agg Y.toArray), (1, .int .u64 first)] = some R ∧ R.toList = bv heard ++ [.int .u64 first] := ⟨_, by rw [hY]; exact built_resume heard first hH, rfl⟩
  have HM : Hid (M = (sessCells own 0 sent heard hA nx cur rs ak).toArray) := hM'
  have HRR : Hid (R.toList = bv heard ++ [.int .u64 first]) := hR'
  have HX : Hid (X = bv rinc) := hX
  have HY : Hid (Y = bv heard) := hY
  have HZ : Hid (Z = bv own) := hZ
  clear hX hY hZ hM' hR' c32 c33 c34 c35 c36 c37 c54 c55 q0 q1
  go_enter Yba.func3, Yba.ntmps3
  have ht0 : ((w.alloc (.cells A 25)).alloc (.cells #[.int .u8 0, .int .u8 0, .int .u8 0, .int .u8 0, .int .u8 0, .int .u8 0, .int .u8 0, .int .u8 0, .int .u8 0, .int .u8 0, .int .u8 0, .int .u8 0, .int .u8 0, .int .u8 0, .int .u8 0, .int .u8 0] 26)).there (w.heap.size + 1) 0 X.toArray.size := by rw [zX]; exact there_new' (w.alloc (.cells A 25)) _ 26 16 _ rfl (by simp)
  have i26 : (Yba.prog.info? 26).map (·.size) = some X.toArray.size := by rw [zX]; exact Yba.size26
  go_wp2_with (first
    | refine wpList_load_mid rfl 22 (.tmp 6) rfl w.heap.size 38 rfl X _ q2 Yba.underlying22 rfl iX ?_
    | (refine wpList_store_mid rfl 26 (.tmp 3) (.tmp 7) rfl (w.heap.size + 1) 0 X.toArray rfl rfl ht0 i26 oX ?_
       refine forgetL (At1 w own heard hA nx sent cur rs ak rinc first true X) (at1_first HARG.out rfl lX) ?_
       clear q2 HARG ht0
       rintro W1 HW1
       obtain ⟨d32, d33, d34, d35, d36, d37, d54, d55⟩ := HW1.1.cells hO hH hR
       obtain ⟨q0, q1, _⟩ := HW1.1.ranges hO hH hR
       rw [← HY.out] at q1
       rw [← HZ.out] at q0
       have q3 := HW1.2.1
       have s1 := HW1.2.2.2.2
       have HAT : Hid (At1 w own heard hA nx sent cur rs ak rinc first true X W1) := HW1
       have th1 : W1.there (w.heap.size + 1) 0 Y.toArray.size := by rw [zY]; exact HW1.2.2.1
       clear HW1)
    | refine wpList_load_mid rfl 22 (.tmp 10) rfl w.heap.size 16 rfl Y _ q1 Yba.underlying22 rfl iY ?_
    | (refine wpList_store_mid rfl 26 (.tmp 3) (.tmp 11) rfl (w.heap.size + 1) 0 Y.toArray rfl rfl th1 i26Y oY ?_
       refine forgetL (At1 w own heard hA nx sent cur rs ak rinc first true Y) (at1_next HAT.out lY) ?_
       clear HAT th1 d32 d33 d34 d35 d36 d37 d54 d55 q0 q1 q3 s1
       rintro W1 HW1
       obtain ⟨d32, d33, d34, d35, d36, d37, d54, d55⟩ := HW1.1.cells hO hH hR
       obtain ⟨q0, q1, _⟩ := HW1.1.ranges hO hH hR
       rw [← HY.out] at q1
       rw [← HZ.out] at q0
       have q3 := HW1.2.1
       have s1 := HW1.2.2.2.2
       have HAT : Hid (At1 w own heard hA nx sent cur rs ak rinc first true Y W1) := HW1
       clear HW1)
    | refine wpList_load_mid rfl 22 (.tmp 12) rfl w.heap.size 0 rfl Z _ q0 Yba.underlying22 rfl iZ ?_
    | refine wpList_load_mid rfl 22 (.tmp 14) rfl w.heap.size 16 rfl Y _ q1 Yba.underlying22 rfl iY ?_
    | refine wpList_built rfl 38 #[(0, .tmp 13), (6, .tmp 15), (7, .tmp 17), (8, .tmp 19), (3, .tmp 21), (9, .tmp 23), (10, .tmp 25), (11, .tmp 27)] rfl [(0, .agg Z.toArray), (6, .agg Y.toArray), (7, .bool hA), (8, .int .u64 nx), (3, .int .u64 sent), (9, .int .u64 cur), (10, .bool rs), (11, .int .u64 ak)] (by simp [Act.eval]) M hM ?_
    | refine wpList_load_mid rfl 26 (.tmp 3) rfl (w.heap.size + 1) 0 rfl Y _ (World.rangeAt_alloc q3 (.cells M 38)) Yba.underlying26 rfl jY ?_
    | refine wpList_built rfl 41 #[(0, .tmp 31), (1, .tmp 33)] rfl [(0, .agg Y.toArray), (1, .int .u64 first)] (by simp [Act.eval]) R hRb ?_)
  have hS1 : Sess 38 (W1.alloc (.cells M 38)) (w.heap.size + 2) own 0 sent heard hA nx cur rs ak := by
    rw [HM.out, ← s1]
    exact Deep.blk_alloc_new _ _
  refine (resumed_any (w.heap.size + 2) own heard heard sent nx cur ak first hA rs R _ hO hH hH hS1 HRR.out).mono ?_
  clear hS1 hM hRb d32 d33 d34 d35 d36 d37 d54 d55 q0 q1 q3
  rintro e W2 ⟨rfl, hS2, hT2⟩
  have hsz : (W1.alloc (.cells M 38)).heap.size = w.heap.size + 3 := by simp [s1]
  have b0 : W2.heap[w.heap.size]? = W1.heap[w.heap.size]? := (hT2.block _ (by omega) (by omega)).trans (Below.heap_alloc _ _ _ (by omega))
  have b1 : W2.heap[w.heap.size + 1]? = W1.heap[w.heap.size + 1]? := (hT2.block _ (by omega) (by omega)).trans (Below.heap_alloc _ _ _ (by omega))
  have hArg : Arg W2 w.heap.size own heard hA nx sent cur rs ak rinc first true := b0.trans HAT.out.1
  have q3 : W2.rangeAt (w.heap.size + 1) 0 Y := rangeAt_of_heap HAT.out.2.1 b1
  have hbel : Below w.heap.size w W2 := (HAT.out.2.2.2.1.alloc (by omega) _).trans (hT2.below (by omega) (by omega))
  obtain ⟨d32, d33, d34, d35, d36, d37, d54, d55⟩ := hArg.cells hO hH hR
  obtain ⟨q0, q1, q2⟩ := hArg.ranges hO hH hR
  have e16 := hS2.c16 hO
  have e19 := hS2.c19 hO
  have e20 := hS2.c20 hO
  have e21 := hS2.c21 hO
  have e38 := hS2.c38 hO hH
  have e39 := hS2.c39 hO hH
  have e40 := hS2.c40 hO hH
  have e41 := hS2.c41 hO hH
  have e42 := hS2.c42 hO hH
  have qh := hS2.heardAt hO
  have qo := hS2.ownAt
  rw [← HY.out] at qh
  rw [← HZ.out] at q0 qo
  rw [← HY.out] at q1
  have jZ : (Yba.prog.info? 26).map (·.size) = some Z.length := by rw [HZ.out, bv_len hO]; exact Yba.size26
  have eXX : ∀ w, (Op.equalIn 10000 26 (.agg Y.toArray) (.agg Y.toArray)).run Yba.prog w = .ok true w := fun w => by rw [HY.out, eq26 hH hH]; simp
  have eZZ : ∀ w, (Op.equalIn 10000 26 (.agg Z.toArray) (.agg Z.toArray)).run Yba.prog w = .ok true w := fun w => by rw [HZ.out, eq26 hO hO]; simp
  have eN := eq_nil36
  have eF := eq_nil28
  obtain ⟨N, hN⟩ : ∃ N, N = nextOf hA heard heard nx first := ⟨_, rfl⟩
  rw [← hN] at e39
  have HN : Hid (N = nextOf hA heard heard nx first) := hN
  have HB : Hid (Below w.heap.size w W2) := hbel
  clear hbel hN hT2 hsz b0 b1 hArg HAT s1 hS2 q2 iX
  go_upto_region 7 with fail
  go_cut [46] from 38 to 45 (fun v wx => v = .bool (!hA || !decide (heard = heard)) ∧ wx = W2)
  case first =>
    cases hA with
    | false =>
      go_wp2_with fail
      go_meet
      case rel => exact ⟨by simp, rfl⟩
    | true =>
      go_wp2_with (first
        | refine wpList_load_g rfl 26 (.tmp 3) rfl (w.heap.size + 1) 0 rfl Y _ q3 Yba.underlying26 rfl jY ?_
        | refine wpList_load_g rfl 22 (.tmp 43) rfl w.heap.size 16 rfl Y _ q1 Yba.underlying22 rfl iY ?_)
      go_meet
      case rel => exact ⟨by simp, rfl⟩
  case rest =>
    obtain ⟨rfl, rfl⟩ := hcut
    have hNB : N = if (!hA || !decide (heard = heard)) = true then first else nx := by
      rw [HN.out]
      unfold nextOf
      by_cases h1 : hA = true <;> simp [h1]
    obtain ⟨B, hB⟩ : ∃ B, B = (!hA || !decide (heard = heard)) := ⟨_, rfl⟩
    rw [← hB] at hNB ⊢
    have HNB : Hid (N = if B = true then first else nx) := hNB
    clear hB hNB HN
    go_upto_if 46 with fail
    go_cut [5] from 36 to 48 (fun v wx => v = .int .u64 N ∧ wx = wc)
    case first =>
      cases B with
      | true =>
        go_wp2_with fail
        go_meet
        case rel => exact ⟨by rw [HNB.out]; rfl, rfl⟩
      | false =>
        go_wp2_with fail
        go_meet
        case rel => exact ⟨by rw [HNB.out]; rfl, rfl⟩
    case rest =>
      obtain ⟨rfl, rfl⟩ := hcut
      clear HNB
      go_wp2_with fail
      refine wp_region_still_lit Yba.mixed (by kernel_rfl) ?_
      iterate 3 still_step
      refine wpStill_load_mid rfl 26 (.tmp 51) rfl (w.heap.size + 2) 22 rfl Y _ qh Yba.underlying26 rfl jY ?_
      simp only [Act.put, List.setIfInBounds_toArray, List.set_cons_zero, List.set_cons_succ]
      refine wpStill_load_mid rfl 26 (.tmp 3) rfl (w.heap.size + 1) 0 rfl Y _ q3 Yba.underlying26 rfl jY ?_
      simp only [Act.put, List.setIfInBounds_toArray, List.set_cons_zero, List.set_cons_succ]
      iterate 34 still_step
      refine wpStill_load_mid rfl 26 (.tmp 87) rfl (w.heap.size + 2) 0 rfl Z _ qo Yba.underlying26 rfl jZ ?_
      simp only [Act.put, List.setIfInBounds_toArray, List.set_cons_zero, List.set_cons_succ]
      still_step
      refine wpStill_load_mid rfl 22 (.tmp 89) rfl w.heap.size 0 rfl Z _ q0 Yba.underlying22 rfl iZ ?_
      simp only [Act.put, List.setIfInBounds_toArray, List.set_cons_zero, List.set_cons_succ]
      iterate 42 still_step
      refine wpStill_nil ?_
      go_wp2
      go_ret
      exact ⟨rfl, HB.out.drew⟩
end Go.Proofs.Ybulkbqiw
