import Derived.Test.YbulkbqiwFmtNew
namespace Go.Proofs.YbulkbqiwFmt
open Go.RowKit Go.MuLone
set_option linter.unusedVariables false

theorem Ybaf.size22 : (Ybaf.prog.info? 22).map (·.size) = some 16 := by kernel_rfl

/-- The law's world behind its first statements: own, inc1 and b in their blocks. -/
def At2 (w : World) (Z X V : List Value) (W : World) : Prop :=
  W.rangeAt w.heap.size 0 Z ∧ W.rangeAt (w.heap.size + 1) 0 X ∧ W.rangeAt (w.heap.size + 3) 0 V ∧ W.there (w.heap.size + 3) 0 16 ∧ Below w.heap.size w W ∧ W.heap.size = w.heap.size + 4

theorem at2_first {w : World} {Z X Y : List Value} {C : Array Value} (hC : C.size = 16) (hY : Y.length = 16) :
    At2 w Z X Y (((((w.alloc (.cells Z.toArray 22)).alloc (.cells X.toArray 22)).alloc (.cells Y.toArray 22)).alloc (.cells C 24)).setCells (w.heap.size + 3) 0 Y) := by
  have ht : ((((w.alloc (.cells Z.toArray 22)).alloc (.cells X.toArray 22)).alloc (.cells Y.toArray 22)).alloc (.cells C 24)).there (w.heap.size + 3) 0 16 := there_new' _ C 24 16 _ hC (by simp)
  have s1 : (w.alloc (.cells Z.toArray 22)).heap.size = w.heap.size + 1 := by simp
  have rZ : (w.alloc (.cells Z.toArray 22)).rangeAt w.heap.size 0 Z := range_new _ _ _
  have rX : ((w.alloc (.cells Z.toArray 22)).alloc (.cells X.toArray 22)).rangeAt (w.heap.size + 1) 0 X := by rw [← s1]; exact range_new _ _ _
  have hb : ∀ k, k ≠ w.heap.size + 3 → (((((w.alloc (.cells Z.toArray 22)).alloc (.cells X.toArray 22)).alloc (.cells Y.toArray 22)).alloc (.cells C 24)).setCells (w.heap.size + 3) 0 Y).heap[k]? = ((((w.alloc (.cells Z.toArray 22)).alloc (.cells X.toArray 22)).alloc (.cells Y.toArray 22)).alloc (.cells C 24)).heap[k]? := fun k hk => heap_setCells hk _ _ _
  refine ⟨?_, ?_, World.rangeAt_setCells_same _ _ _ _ (by rw [hY]; exact ht), World.there_setCells ht _ _ _, below_setCells (by omega) _ _ (((((Below.refl _ _).alloc (Nat.le_refl _) _).alloc (by simp) _).alloc (by simp; omega) _).alloc (by simp; omega) _), by rw [size_setCells]; simp⟩
  · exact rangeAt_of_heap (((World.rangeAt_alloc (World.rangeAt_alloc (World.rangeAt_alloc rZ _) _) _))) (hb _ (by omega))
  · exact rangeAt_of_heap ((World.rangeAt_alloc (World.rangeAt_alloc rX _) _)) (hb _ (by omega))
theorem at2_next {w W : World} {Z X Y V : List Value} (h : At2 w Z X Y W) (hV : V.length = 16) : At2 w Z X V (W.setCells (w.heap.size + 3) 0 V) := by
  obtain ⟨h1, h2, h3, h4, h5, h6⟩ := h
  exact ⟨rangeAt_of_heap h1 (heap_setCells (by omega) _ _ _), rangeAt_of_heap h2 (heap_setCells (by omega) _ _ _), World.rangeAt_setCells_same _ _ _ _ (by rw [hV]; exact h4), World.there_setCells h4 _ _ _, below_setCells (by omega) _ _ h5, by rw [size_setCells]; exact h6⟩

/-- The law's world behind NewSession: inc1 and b in their blocks, the session in block s. -/
def St (w : World) (X V : List Value) (s : Nat) (W : World) : Prop :=
  W.rangeAt (w.heap.size + 1) 0 X ∧ W.rangeAt (w.heap.size + 3) 0 V ∧ Below w.heap.size w W ∧ w.heap.size + 4 < s ∧ s < W.heap.size
theorem St.turn {w W W' : World} {X V : List Value} {s : Nat} (h : St w X V s W) (t : Turned s W W') : St w X V s W' := by
  obtain ⟨h1, h2, h3, h4, h5⟩ := h
  exact ⟨rangeAt_of_heap h1 (t.block _ (by omega) (by omega)), rangeAt_of_heap h2 (t.block _ (by omega) (by omega)), h3.trans (t.below (by omega) h3.size), h4, Nat.lt_of_lt_of_le h5 t.size⟩

/-- The incarnation that the second resume names. -/
def bOf (same : Bool) (inc1 inc2 : List Int) : List Int := if same = true then inc1 else inc2

set_option maxRecDepth 100000 in
set_option maxHeartbeats 4000000 in
theorem seq_any (own inc1 inc2 : List Int) (first1 first2 handed : Int) (same : Bool) (w : World) (hO : Inc own) (h1 : Inc inc1) (h2 : Inc inc2) (Z X Y : List Value) (hZ : Z = bv own) (hX : X = bv inc1) (hY : Y = bv inc2)
    (hf1 : 0 ≤ first1) (hf1' : first1 < 18446744073709551616) (hf2 : 0 ≤ first2) (hf2' : first2 < 18446744073709551616) (hh : 0 ≤ handed) (hh' : handed ≤ 255) :
    Calls Ybaf.prog 3 #[.agg Z.toArray, .agg X.toArray, .agg Y.toArray, .int .u64 first1, .int .u64 first2, .int .u8 handed, .bool same] w fun e w' => e = .returned (.bool true) ∧ Below w.heap.size w w' := by
  have q2 : (((w.alloc (.cells Z.toArray 22)).alloc (.cells X.toArray 22)).alloc (.cells Y.toArray 22)).rangeAt (w.heap.size + 2) 0 Y := by
    have := range_new ((w.alloc (.cells Z.toArray 22)).alloc (.cells X.toArray 22)) Y 22
    have hs : ((w.alloc (.cells Z.toArray 22)).alloc (.cells X.toArray 22)).heap.size = w.heap.size + 2 := by simp
    rw [hs] at this
    exact this
  have lX : X.length = 16 := by rw [hX]; exact bv_len h1
  have lY : Y.length = 16 := by rw [hY]; exact bv_len h2
  have lZ : Z.length = 16 := by rw [hZ]; exact bv_len hO
  have iX : (Ybaf.prog.info? 22).map (·.size) = some X.length := by rw [lX]; exact Ybaf.size22
  have iY : (Ybaf.prog.info? 22).map (·.size) = some Y.length := by rw [lY]; exact Ybaf.size22
  have iZ : (Ybaf.prog.info? 22).map (·.size) = some Z.length := by rw [lZ]; exact Ybaf.size22
  have zX : X.toArray.size = 16 := by simp [lX]
  have zY : Y.toArray.size = 16 := by simp [lY]
  have oX : X.toArray.all (·.oneCell') = true := by rw [hX]; exact all_oneCell_toArray (bv_one _)
  have oY : Y.toArray.all (·.oneCell') = true := by rw [hY]; exact all_oneCell_toArray (bv_one _)
  have jX : (Ybaf.prog.info? 24).map (·.size) = some X.toArray.size := by rw [zX]; exact Ybaf.size26
  have jY : (Ybaf.prog.info? 24).map (·.size) = some Y.toArray.size := by rw [zY]; exact Ybaf.size26
  have ht0 : ((((w.alloc (.cells Z.toArray 22)).alloc (.cells X.toArray 22)).alloc (.cells Y.toArray 22)).alloc (.cells #[.int .u8 0, .int .u8 0, .int .u8 0, .int .u8 0, .int .u8 0, .int .u8 0, .int .u8 0, .int .u8 0, .int .u8 0, .int .u8 0, .int .u8 0, .int .u8 0, .int .u8 0, .int .u8 0, .int .u8 0, .int .u8 0] 24)).there (w.heap.size + 3) 0 Y.toArray.size := by
    rw [zY]
    exact there_new' _ _ 24 16 _ rfl (by simp)
  have HX : Hid (X = bv inc1) := hX
  have HY : Hid (Y = bv inc2) := hY
  have HZ : Hid (Z = bv own) := hZ
  clear hX hY hZ
  go_enter Ybaf.func3, Ybaf.ntmps3
  go_upto_if 25 with (first
    | refine wpList_load_mid rfl 22 (.tmp 9) rfl (w.heap.size + 2) 0 rfl Y _ (World.rangeAt_alloc q2 _) Ybaf.underlying22 rfl iY ?_
    | refine wpList_load_mid rfl 22 (.tmp 9) rfl (w.heap.size + 2) 0 rfl Y _ q2 Ybaf.underlying22 rfl iY ?_
    | (refine wpList_store_mid rfl 24 (.tmp 15) (.tmp 24) rfl (w.heap.size + 3) 0 Y.toArray rfl rfl ht0 jY oY ?_
       refine forgetL (At2 w Z X Y) (at2_first rfl lY) ?_
       clear q2 ht0
       rintro W1 HW1))
  obtain ⟨V, hV⟩ : ∃ V, V = bv (bOf same inc1 inc2) := ⟨_, rfl⟩
  have HV : Hid (V = bv (bOf same inc1 inc2)) := hV
  have hI : Inc (bOf same inc1 inc2) := by unfold bOf; split <;> assumption
  clear hV
  have th1 : W1.there (w.heap.size + 3) 0 X.toArray.size := by rw [zX]; exact HW1.2.2.2.1
  have r1 := HW1.2.1
  have HA : Hid (At2 w Z X Y W1) := HW1
  clear HW1
  go_cut [14] from 24 to 26 (fun v wx => v = .bool false ∧ At2 w Z X V wx)
  case first =>
    cases same with
    | false =>
      go_wp2_with fail
      go_meet
      case rel => exact ⟨rfl, by rw [HV.out]; exact HY.out ▸ HA.out⟩
    | true =>
      go_wp2_with (first
        | refine wpList_load_mid rfl 22 (.tmp 8) rfl (w.heap.size + 1) 0 rfl X _ r1 Ybaf.underlying22 rfl iX ?_
        | (refine wpList_store_mid rfl 24 (.tmp 15) (.tmp 26) rfl (w.heap.size + 3) 0 X.toArray rfl rfl th1 jX oX ?_
           refine forgetL (At2 w Z X V) (by rw [HV.out]; exact HX.out ▸ at2_next HA.out lX) ?_
           clear th1 r1
           rintro W2 HW2
           have HA2 : Hid (At2 w Z X V W2) := HW2
           clear HW2))
      go_meet
      case rel => exact ⟨rfl, HA2.out⟩
  case rest =>
    obtain ⟨rfl, hat⟩ := hcut
    clear HA th1 r1 W1
    have r0 := hat.1
    have s0 := hat.2.2.2.2.2
    have HAT : Hid (At2 w Z X V wc) := hat
    clear hat
    go_wp2_with (first
      | refine wpList_load_mid rfl 22 (.tmp 7) rfl w.heap.size 0 rfl Z _ r0 Ybaf.underlying22 rfl iZ ?_)
    refine (new_any own Z wc hO HZ.out).mono ?_
    rintro e W2 ⟨rfl, hS, hb, hsz⟩
    generalize hs : wc.heap.size + 1 = s at hS ⊢
    have hSt : St w X V s W2 := ⟨rangeAt_of_heap HAT.out.2.1 (hb.block _ (by omega)), rangeAt_of_heap HAT.out.2.2.1 (hb.block _ (by omega)), HAT.out.2.2.2.2.1.trans (hb.mono (by omega)), by omega, by omega⟩
    have HS2 : Hid (Sess 52 W2 s own 0 0 zeros false 0 0 false 0) := hS
    have HSt : Hid (St w X V s W2) := hSt
    have r1 := hSt.1
    clear hS hb hsz hs HAT r0 s0 hSt
    obtain ⟨R1, hR1, hR1'⟩ : ∃ R, Ybaf.prog.built 29 [(0, .agg X.toArray), (1, .int .u64 first1)] = some R ∧ R.toList = bv inc1 ++ [.int .u64 first1] := ⟨_, by rw [HX.out]; exact built_resume inc1 first1 h1, rfl⟩
    have HR1 : Hid (R1.toList = bv inc1 ++ [.int .u64 first1]) := hR1'
    clear hR1'
    go_wp2_with (first
      | refine wpList_load_mid rfl 22 (.tmp 8) rfl (w.heap.size + 1) 0 rfl X _ r1 Ybaf.underlying22 rfl iX ?_
      | refine wpList_built rfl 29 #[(0, .tmp 30), (1, .tmp 31)] rfl [(0, .agg X.toArray), (1, .int .u64 first1)] (by simp [Act.eval]) R1 hR1 ?_)
    refine (resumed_first s own zeros inc1 0 0 0 0 first1 false R1 W2 hO inc_zeros h1 HS2.out HR1.out).mono ?_
    rintro e W3 ⟨rfl, hS3, hT3⟩
    have HS3 : Hid (Sess 52 W3 s own 0 0 inc1 true first1 0 true first1) := hS3
    have HSt3 : Hid (St w X V s W3) := HSt.out.turn hT3
    clear hS3 hT3 HS2 HSt r1 hR1 HR1
    obtain ⟨h, hh8, hh7⟩ : ∃ h : Nat, handed.tmod 8 = (h : Int) ∧ h ≤ 7 := ⟨(handed.tmod 8).toNat, by rw [Int.tmod_eq_emod_of_nonneg hh]; omega, by rw [Int.tmod_eq_emod_of_nonneg hh]; omega⟩
    go_wp2_with fail
    go_loopw [18] (fun i wr => ∃ k : Nat, k ≤ h ∧ i = .int .i64 k ∧ Hid (Sess 52 wr s own 0 0 inc1 true ((first1 + k) % 18446744073709551616) 0 true first1) ∧ Hid (St w X V s wr)) (fun i _ => h - (intOf i).toNat)
    case atStart =>
      refine ⟨0, Nat.zero_le _, rfl, ?_, HSt3⟩
      have e : (first1 + ((0 : Nat) : Int)) % 18446744073709551616 = first1 := by omega
      rw [e]
      exact HS3
    case round =>
      obtain ⟨k, hk, rfl, HSr, HStr⟩ := hrel
      clear HS3 HSt3
      by_cases hlt : k < h
      · go_wp2_with fail
        refine (handed_any s own inc1 0 ((first1 + k) % 18446744073709551616) 0 first1 true true wr hO h1 HSr.out).mono ?_
        rintro e W4 ⟨rfl, hS4, hT4⟩
        have e1 : ((first1 + (k : Int)) % 18446744073709551616 + 1) % 18446744073709551616 = (first1 + ((k + 1 : Nat) : Int)) % 18446744073709551616 := by omega
        rw [e1] at hS4
        have HS4 : Hid (Sess 52 W4 s own 0 0 inc1 true ((first1 + ((k + 1 : Nat) : Int)) % 18446744073709551616) 0 true first1) := hS4
        have HSt4 : Hid (St w X V s W4) := HStr.out.turn hT4
        clear hS4 hT4 e1
        go_wp2
        go_roundw
        case rel => exact ⟨k + 1, by omega, by go_num, HS4, HSt4⟩
        case measure => simp [intOf]; omega
      · have hkh : k = h := by omega
        subst hkh
        have r3 := HStr.out.2.1
        have lV : V.length = 16 := by rw [HV.out]; exact bv_len hI
        have jV : (Ybaf.prog.info? 24).map (·.size) = some V.length := by rw [lV]; exact Ybaf.size26
        obtain ⟨R2, hR2, hR2'⟩ : ∃ R, Ybaf.prog.built 29 [(0, .agg V.toArray), (1, .int .u64 first2)] = some R ∧ R.toList = bv (bOf same inc1 inc2) ++ [.int .u64 first2] := ⟨_, by rw [HV.out]; exact built_resume _ first2 hI, rfl⟩
        have HR2 : Hid (R2.toList = bv (bOf same inc1 inc2) ++ [.int .u64 first2]) := hR2'
        clear hR2'
        go_wp2_with (first
          | refine wpList_load_mid rfl 24 (.tmp 15) rfl (w.heap.size + 3) 0 rfl V _ r3 Ybaf.underlying24 rfl jV ?_
          | refine wpList_built rfl 29 #[(0, .tmp 45), (1, .tmp 46)] rfl [(0, .agg V.toArray), (1, .int .u64 first2)] (by simp [Act.eval]) R2 hR2 ?_)
        have r1 := HStr.out.1
        by_cases hbe : bOf same inc1 inc2 = inc1
        · refine (resumed_same s own inc1 (bOf same inc1 inc2) 0 ((first1 + k) % 18446744073709551616) 0 first1 first2 true R2 wr hO h1 hI hbe HSr.out HR2.out).mono ?_
          rintro e W5 ⟨rfl, hS5, hT5⟩
          have hSt5 := HStr.out.turn hT5
          have HS5 : Hid (Sess 52 W5 s own 0 0 (bOf same inc1 inc2) true ((first1 + k) % 18446744073709551616) 0 true first2) := hS5
          have HSt5 : Hid (St w X V s W5) := hSt5
          have eVX : ∀ w, (Op.equalIn 10000 24 (.agg V.toArray) (.agg X.toArray)).run Ybaf.prog w = .ok true w := fun w => by rw [HV.out, HX.out, eq26 hI h1]; simp [hbe]
          have q3 := hSt5.2.1
          have q1 := hSt5.1
          clear hS5 hT5 hSt5 r1 r3 hR2 HR2 HSr HStr
          have HBE : Hid (bOf same inc1 inc2 = inc1) := hbe
          clear hbe
          go_wp2_with (first
            | refine wpList_load_mid rfl 24 (.tmp 15) rfl (w.heap.size + 3) 0 rfl V _ q3 Ybaf.underlying24 rfl jV ?_
            | refine wpList_load_mid rfl 22 (.tmp 8) rfl (w.heap.size + 1) 0 rfl X _ q1 Ybaf.underlying22 rfl iX ?_)
          generalize hN : IntKind.u64.wrap (first1 + (k : Int)) = N
          have hSN : Sess 52 W5 s own 0 0 (bOf same inc1 inc2) true N 0 true first2 := by
            have e : (first1 + (k : Int)) % 18446744073709551616 = N := by rw [← hN]; rfl
            rw [← e]
            exact HS5.out
          clear hN HS5 q1 q3 eVX
          refine (fresh_next s own (bOf same inc1 inc2) 0 N 0 first2 true true W5 hO hI hSN).mono ?_
          rintro e W6 ⟨rfl, hS6, hT6⟩
          have HS6 : Hid (Sess 52 W6 s own 0 0 (bOf same inc1 inc2) true N 0 true first2) := hS6
          have HSt6 : Hid (St w X V s W6) := HSt5.out.turn hT6
          clear hS6 hT6 HSt5 hSN
          go_wp2_with fail
          by_cases hgt : first2 < N
          · refine (ack_due s own (bOf same inc1 inc2) 0 N 0 first2 true W6 hO hI hgt HS6.out).mono ?_
            rintro e W7 ⟨rfl, hT7⟩
            have HSt7 : Hid (St w X V s W7) := HSt6.out.turn hT7
            clear hT7 HSt6 HS6
            go_wp2
            go_ret
            exact ⟨rfl, HSt7.out.2.2.1.alloc (by have := HSt7.out.2.2.1.size; omega) _⟩
          · have hgt' : decide (first2 < N) = false := by simpa using hgt
            refine (ack_none s own (bOf same inc1 inc2) 0 N 0 first2 true W6 hO hI (by omega) HS6.out).mono ?_
            rintro e W7 ⟨rfl, hT7⟩
            have HSt7 : Hid (St w X V s W7) := HSt6.out.turn hT7
            clear hT7 HSt6 HS6
            go_wp2
            go_ret
            exact ⟨rfl, HSt7.out.2.2.1.alloc (by have := HSt7.out.2.2.1.size; omega) _⟩
        · refine (resumed_new s own inc1 (bOf same inc1 inc2) 0 ((first1 + k) % 18446744073709551616) 0 first1 first2 true R2 wr hO h1 hI hbe HSr.out HR2.out).mono ?_
          rintro e W5 ⟨rfl, hS5, hT5⟩
          have hSt5 := HStr.out.turn hT5
          have HS5 : Hid (Sess 52 W5 s own 0 0 (bOf same inc1 inc2) true first2 0 true first2) := hS5
          have HSt5 : Hid (St w X V s W5) := hSt5
          have eVX : ∀ w, (Op.equalIn 10000 24 (.agg V.toArray) (.agg X.toArray)).run Ybaf.prog w = .ok false w := fun w => by rw [HV.out, HX.out, eq26 hI h1]; simp [hbe]
          have q3 := hSt5.2.1
          have q1 := hSt5.1
          clear hS5 hT5 hSt5 r1 r3 hR2 HR2 HSr HStr hbe
          go_wp2_with (first
            | refine wpList_load_mid rfl 24 (.tmp 15) rfl (w.heap.size + 3) 0 rfl V _ q3 Ybaf.underlying24 rfl jV ?_
            | refine wpList_load_mid rfl 22 (.tmp 8) rfl (w.heap.size + 1) 0 rfl X _ q1 Ybaf.underlying22 rfl iX ?_)
          clear q1 q3 eVX
          refine (fresh_next s own (bOf same inc1 inc2) 0 first2 0 first2 true true W5 hO hI HS5.out).mono ?_
          rintro e W6 ⟨rfl, hS6, hT6⟩
          have HS6 : Hid (Sess 52 W6 s own 0 0 (bOf same inc1 inc2) true first2 0 true first2) := hS6
          have HSt6 : Hid (St w X V s W6) := HSt5.out.turn hT6
          clear hS6 hT6 HSt5 HS5
          go_wp2_with fail
          have hgt' : decide (first2 < first2) = false := by simp
          refine (ack_none s own (bOf same inc1 inc2) 0 first2 0 first2 true W6 hO hI (Int.le_refl _) HS6.out).mono ?_
          rintro e W7 ⟨rfl, hT7⟩
          have HSt7 : Hid (St w X V s W7) := HSt6.out.turn hT7
          clear hT7 HSt6 HS6
          go_wp2
          go_ret
          exact ⟨rfl, HSt7.out.2.2.1.alloc (by have := HSt7.out.2.2.1.size; omega) _⟩
end Go.Proofs.YbulkbqiwFmt
