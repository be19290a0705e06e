import Derived.Test.YbulkbqjkLawNone
namespace Go.Proofs.Ybulkbqjk
open Go.RowKit
set_option linter.unusedVariables false

theorem cp_new (w2 : World) (typ : ByteArray) (seq : Int) (cid : ByteArray) (a' : Option Addr) (c' : Nat) (fs : List (List Int)) :
    let W := (w2.alloc (.cells #[.string ⟨#[120]⟩, .string typ, .nilIface, .pointer (some ⟨w2.heap.size + 1, 0, none⟩), .int .u64 seq] 36)).alloc (.cells #[.string cid, .slice a' fs.length c'] 38)
    Below w2.heap.size w2 W ∧ Client W w2.heap.size typ (.pointer (some ⟨w2.heap.size + 1, 0, none⟩)) seq ∧ Cp W (w2.heap.size + 1) cid a' c' fs := by
  intro W
  have hb : Below w2.heap.size w2 (w2.alloc (.cells #[.string ⟨#[120]⟩, .string typ, .nilIface, .pointer (some ⟨w2.heap.size + 1, 0, none⟩), .int .u64 seq] 36)) := (Below.refl _ w2).alloc (Nat.le_refl _) _
  have hC := client_new w2 typ (.pointer (some ⟨w2.heap.size + 1, 0, none⟩)) seq .nilIface
  have hb2 : Below (w2.heap.size + 1) (w2.alloc (.cells #[.string ⟨#[120]⟩, .string typ, .nilIface, .pointer (some ⟨w2.heap.size + 1, 0, none⟩), .int .u64 seq] 36)) W := (Below.refl _ _).alloc (by simp) _
  refine ⟨hb.trans (hb2.mono (by omega)), hC.below hb2 (by omega), ?_⟩
  refine ⟨by simp [W], ?_, ?_⟩ <;> simp [W, go_sem]

theorem same_q (a1 a2 : Option Addr) (n c1 c2 : Nat) (fs : List (List Int)) (w : World) (B1 B2 : Nat) (hl : fs.length = n) (h1 : Pref w B1 a1 fs) (h2 : Pref w B2 a2 fs) (hn : a1.isNone = a2.isNone) (hfl : fs.length ≤ 1024) :
    Calls Yba.prog 14 #[.slice a1 n c1, .slice a2 n c2] w fun e w' => e = .returned (.bool true) ∧ ∃ m, w' = w.drewN m := by
  subst hl
  exact same_any a1 a2 c1 c2 fs w B1 B2 h1 h2 hn hfl

theorem Yba.size38 : (Yba.prog.info? 38).map (·.size) = some 2 := by kernel_rfl
theorem neq34 (w : World) (a : Addr) : (binOp .neq 34 (.pointer (some a)) (.pointer (some a))).run Yba.prog w = .ok (.bool false) w := by
  obtain ⟨j, hj, _⟩ := Option.map_eq_some_iff.1 Yba.size38
  exact Lib.run_neq_ptr_same w a Yba.underlying34 hj

set_option maxRecDepth 100000 in
set_option maxHeartbeats 4000000 in
/-- The law, a counterparty. -/
theorem law_cp (typ cid : ByteArray) (seq : Int) (a : Option Addr) (c : Nat) (fs : List (List Int)) (w : World) (hP : Pref w w.heap.size a fs) (ht : typ.size ≤ maxLen) (hc : cid.size ≤ maxLen) (hfl : fs.length ≤ maxLen) (hff : ∀ i, i < fs.length → (fs.getD i []).length ≤ maxLen)
    (hnil : a = none → fs = [] ∧ c = 0) (hs0 : 0 ≤ seq) (hs1 : seq < 18446744073709551616) :
    Calls Yba.prog 5 #[.agg #[.string typ, .int .u64 seq, .bool true, .string cid, .slice a fs.length c]] w (LawPost w) := by
  have HP : Hid (Pref w w.heap.size a fs) := hP
  have HN : Hid (a = none → fs = [] ∧ c = 0) := hnil
  have HS : Hid (seq < 18446744073709551616) := hs1
  have HM : Hid ((typ.size ≤ maxLen) ∧ cid.size ≤ maxLen ∧ fs.length ≤ maxLen ∧ ∀ i, i < fs.length → (fs.getD i []).length ≤ maxLen) := ⟨ht, hc, hfl, hff⟩
  clear hP hnil hs1 ht hc hfl hff
  go_enter Yba.func5, Yba.ntmps5
  go_wp2_with fail
  have HB0 : Hid (Below w.heap.size w (w.alloc (.cells #[.string typ, .int .u64 seq, .bool true, .string cid, .slice a fs.length c] 28))) := (Below.refl _ w).alloc (Nat.le_refl _) _
  refine (big_any typ cid seq true a c fs _ ((HP.out.below HB0.out).mono (by simp)) HM.out.1 HM.out.2.1 HM.out.2.2.1 HM.out.2.2.2).mono ?_
  rintro e w1 ⟨b, rfl, hsm, hb1⟩
  have HR : Hid (Rec w1 w.heap.size typ seq true cid a fs.length c) := (rec_new w typ seq true cid a fs.length c).below hb1 (by simp)
  have HB1 : Hid (Below w.heap.size w w1) := HB0.out.trans (hb1.mono (by simp))
  have HP1 : Hid (Pref w1 w1.heap.size a fs) := (HP.out.below HB1.out).mono HB1.out.size
  generalize w.heap.size = rb at HR
  clear hb1 HB0 HP HM
  cases b with
  | true =>
    go_wp2_with fail
    go_ret
    exact ⟨rfl, HB1.out⟩
  | false =>
    have HSM : Hid (Small typ cid fs) := hsm rfl
    clear hsm
    have r4 := HR.out.2.2.2.2.2
    go_wp2_with fail
    refine (clone_any a c fs w1 HP1.out HN.out HSM.out.2.2.1 HSM.out.2.2.2).mono ?_
    rintro e w2 ⟨a', c', rfl, hp2, hnn, hb2⟩
    have HR2 : Hid (Rec w2 rb typ seq true cid a fs.length c) := HR.out.below hb2 HR.out.1
    have HB2 : Hid (Below w.heap.size w w2) := HB1.out.trans (hb2.mono HB1.out.size)
    have HP2 : Hid (Pref w2 w2.heap.size a' fs) := hp2
    have HQ2 : Hid (Pref w2 w2.heap.size a fs) := (HP1.out.below hb2).mono hb2.size
    have HNN : Hid (a'.isNone = a.isNone) := hnn
    clear HR HB1 HP1 hp2 hnn hb2 r4
    have r0 := HR2.out.2.1
    have r1 := HR2.out.2.2.1
    have r2 := HR2.out.2.2.2.1
    have r3 := HR2.out.2.2.2.2.1
    have hrb := HR2.out.1
    have hrb' : rb < w2.heap.size + 1 := by omega
    go_wp2_with fail
    refine forget (fun W => Below w2.heap.size w2 W ∧ Client W w2.heap.size typ (.pointer (some ⟨w2.heap.size + 1, 0, none⟩)) seq ∧ Cp W (w2.heap.size + 1) cid a' c' fs) ?_ ?_
    · exact cp_new w2 typ seq cid a' c' fs
    rintro W ⟨hbW, hCW, hKW⟩
    have HBW : Hid (Below w2.heap.size w2 W) := hbW
    refine (enc_cp w2.heap.size (w2.heap.size + 1) typ cid seq a' c' fs W hCW hKW ((HP2.out.below hbW).mono hbW.size) HSM.out hs0 HS.out).mono ?_
    rintro e w3 ⟨gv, rfl, hgv, hb3⟩
    have HC3 : Hid (Client w3 w2.heap.size typ (.pointer (some ⟨w2.heap.size + 1, 0, none⟩)) seq) := hCW.below hb3 hCW.1
    have HK3 : Hid (Cp w3 (w2.heap.size + 1) cid a' c' fs) := hKW.below hb3 hKW.1
    have HB23 : Hid (Below w2.heap.size w2 w3) := HBW.out.trans (hb3.mono HBW.out.size)
    have HR3 : Hid (Rec w3 rb typ seq true cid a fs.length c) := HR2.out.below HB23.out hrb
    have HB3 : Hid (Below w.heap.size w w3) := HB2.out.trans (HB23.out.mono HB2.out.size)
    have HP3 : Hid (Pref w3 w3.heap.size a' fs) := (HP2.out.below HB23.out).mono HB23.out.size
    have HQ3 : Hid (Pref w3 w3.heap.size a fs) := (HQ2.out.below HB23.out).mono HB23.out.size
    have HG : Hid (Src w3 w3.heap.size gv (recL typ seq cid fs)) := hgv
    generalize w2.heap.size + 1 = pb at HC3 HK3 ⊢
    generalize w2.heap.size = cb at HC3 ⊢
    clear hgv hb3 HBW HB23 HB2 HR2 HP2 HQ2 r0 r1 r2 r3 hrb hrb' hbW hCW hKW W w2 HN w1
    have r0 := HR3.out.2.1
    have ht := HSM.out.1
    have hsl := strL_len typ
    have hwr : IntKind.u64.wrap (typ.size : Int) = (typ.size : Int) := by rw [IntKind.wrap_u64]; omega
    go_wp2_with fail
    rw [show (typ.size : Int) = ((strL typ).length : Int) by rw [hsl]]
    refine (uv_own w3.heap.size w3 (.slice none 0 0) [] ((strL typ).length : Int) w3 (by omega) (by omega) (Buf.nil w3 (Nat.le_refl _)) (by simp)).mono ?_
    rintro e w4 ⟨v4, rfl, hb4⟩
    rw [List.nil_append] at hb4
    have HB4 : Hid (Buf w3.heap.size w3 v4 (uvB (strL typ).length) w4) := hb4
    have s0 := (HB4.out.cell HR3.out.1).trans HR3.out.2.1
    have hul := uvB_len (strL typ).length
    clear hb4 r0 hwr
    go_wp2_with (at_builtin; refine append_str rfl (.tmp 39) (.tmp 41) rfl w3.heap.size w3 v4 _ rfl typ HB4.out rfl (by omega) ?_)
    intro v5 w5 hb5
    have HB5 : Hid (Buf w3.heap.size w3 v5 (preL typ seq 0) w5) := by unfold preL; rw [List.take_zero, List.append_nil, hsl]; exact hb5
    clear hb5 HB4 s0
    go_wp2_with fail
    go_loopw [7, 8] (fun b i wr => ∃ k : Nat, k ≤ 8 ∧ i = .int .i64 (7 - k) ∧ Hid (Buf w3.heap.size w3 b (preL typ seq k) wr)) (fun _ i _ => (intOf i + 1).toNat)
    case atStart => exact ⟨0, by omega, rfl, HB5⟩
    case round =>
      obtain ⟨k, hk, rfl, HBr⟩ := hrel
      clear HB5
      by_cases hlt : k < 8
      · have q1 := (HBr.out.cell HR3.out.1).trans HR3.out.2.2.1
        have hpl := preL_len typ seq k ht
        have HST : Hid (StepAt typ seq k) := ⟨k + 1, by omega, by congr 1; omega, preL_step typ seq k hlt⟩
        obtain rfl | rfl | rfl | rfl | rfl | rfl | rfl | rfl : k = 0 ∨ k = 1 ∨ k = 2 ∨ k = 3 ∨ k = 4 ∨ k = 5 ∨ k = 6 ∨ k = 7 := by omega
        all_goals
          go_wp2_with (at_builtin; refine append_byte rfl (.tmp 47) (.tmp 55) rfl w3.heap.size w3 u7 _ rfl _ HBr.out rfl (by omega) ?_)
          intro v6 w6 hb6
          clear HBr q1 hpl
          go_wp2_with fail
          go_roundw
          case rel =>
            obtain ⟨m, h1, h2, h3⟩ := HST.out
            exact ⟨m, h1, h2, by rw [h3]; exact hb6⟩
          case measure => simp [intOf]
      · obtain rfl : k = 8 := by omega
        have q2 := (HBr.out.cell HR3.out.1).trans HR3.out.2.2.2.1
        have q3 := (HBr.out.cell HR3.out.1).trans HR3.out.2.2.2.2.1
        rw [preL_eight] at HBr
        have hhl := headL_len typ seq ht
        have hcl := strL_len cid
        have hcs := HSM.out.2.1
        go_wp2_with (at_builtin; refine append_str rfl (.tmp 59) (.tmp 61) rfl w3.heap.size w3 u7 _ rfl cid HBr.out rfl (by omega) ?_)
        intro v8 w8 hb8
        have HB8 : Hid (Buf w3.heap.size w3 v8 (headL typ seq ++ strL cid) w8) := hb8
        have q4 := (HB8.out.cell HR3.out.1).trans HR3.out.2.2.2.2.2
        clear hb8 HBr q2 q3
        by_cases h1 : fs.length = 1
        · obtain ⟨b, o, a1, c1, rfl, hbb, d, hsrc⟩ := HQ3.out.at (i := 0) (by omega)
          rw [Nat.add_zero] at d
          have HL : Hid (recL typ seq cid fs = ((headL typ seq ++ strL cid) ++ [47]) ++ fs.getD 0 []) := by show recL typ seq cid fs = _; unfold recL; rw [if_pos h1]
          have hfm := HSM.out.2.2.2 0 (by omega)
          generalize hf : fs.getD 0 [] = f at d hsrc HL hfm
          have HSRC : Hid (Src w3 w3.heap.size (.slice a1 f.length c1) f) := hsrc
          have HD : Hid (w3.cell? ⟨b, o, none⟩ = some (.slice a1 f.length c1)) := d
          have HBB : Hid (b < w3.heap.size) := hbb
          clear hf hsrc d hbb
          go_wp2_with (at_builtin; refine append_byte rfl (.tmp 67) (.tmp 68) rfl w3.heap.size w3 v8 _ rfl _ HB8.out rfl (by simp; omega) ?_)
          intro v9 w9 hb9
          have HB9 : Hid (Buf w3.heap.size w3 v9 ((headL typ seq ++ strL cid) ++ [47]) w9) := by rw [List.append_assoc]; exact hb9
          have g0 := keep_buf HD.out HBB.out HB9.out
          have q5 := (HB9.out.cell HR3.out.1).trans HR3.out.2.2.2.2.2
          clear hb9 q4 HB8
          go_wp2_with (at_builtin; refine append_src rfl (.tmp 70) (.tmp 74) rfl w3.heap.size w3 v9 _ rfl HB9.out _ rfl _ f (HSRC.out.below HB9.out.below) (by simp; omega) ?_)
          intro v10 wz hbz
          have HBZ : Hid (Buf w3.heap.size w3 v10 (recL typ seq cid fs) wz) := by rw [HL.out]; first | exact hbz | (simp only [List.append_assoc] at hbz ⊢; exact hbz)
          clear hbz g0 q5 HB9 HL
          go_wp2_with fail
          refine (equal_same gv v10 (recL typ seq cid fs) wz _ _ (HG.out.below HBZ.out.below) HBZ.out.src).mono ?_
          rintro e w10 ⟨rfl, rfl⟩
          have c0 := (HBZ.out.cell HC3.out.1).trans HC3.out.2.1
          have c1 := (HBZ.out.cell HC3.out.1).trans HC3.out.2.2.1
          have c3 := (HBZ.out.cell HC3.out.1).trans HC3.out.2.2.2.1
          have c4 := (HBZ.out.cell HC3.out.1).trans HC3.out.2.2.2.2
          have q0 := (HBZ.out.cell HR3.out.1).trans HR3.out.2.1
          have q1 := (HBZ.out.cell HR3.out.1).trans HR3.out.2.2.1
          have n34 := fun w => neq34 w ⟨pb, 0, none⟩
          go_wp2_with fail
          go_quiet (fail)
          go_wp2_with fail
          refine forgetW (fun W => Buf w3.heap.size w3 v10 (recL typ seq cid fs) W) (HBZ.out.drewN _) ?_
          rintro w11 hb11
          have HB11 : Hid (Buf w3.heap.size w3 v10 (recL typ seq cid fs) w11) := hb11
          have k0 := (HB11.out.cell HK3.out.1).trans HK3.out.2.1
          have k1 := (HB11.out.cell HK3.out.1).trans HK3.out.2.2
          have t3 := (HB11.out.cell HR3.out.1).trans HR3.out.2.2.2.2.1
          have t4 := (HB11.out.cell HR3.out.1).trans HR3.out.2.2.2.2.2
          clear hb11 c0 c1 c3 c4 q0 q1 HBZ
          go_quiet ((go_at_call 14; exact Calls.quiet_of (same_q _ _ _ _ _ fs _ w3.heap.size w3.heap.size (by first | rfl | assumption) (HP3.out.below (HB11.out.drewN _).below) (HQ3.out.below (HB11.out.drewN _).below) HNN.out HSM.out.2.2.1)))
          go_wp2_with fail
          go_ret
          exact ⟨rfl, HB3.out.trans ((HB11.out.drewN _).below.mono HB3.out.size)⟩
        · have h1' : ((fs.length : Int) == 1) = false := by simp; omega
          have HL : Hid (recL typ seq cid fs = ((headL typ seq ++ strL cid) ++ [58]) ++ flat fs fs.length) := by show recL typ seq cid fs = _; unfold recL; rw [if_neg h1]
          clear h1
          go_wp2_with (at_builtin; refine append_byte rfl (.tmp 76) (.tmp 77) rfl w3.heap.size w3 v8 _ rfl _ HB8.out rfl (by simp; omega) ?_)
          intro v9 w9 hb9
          obtain ⟨L0, hL0⟩ : ∃ L0, L0 = (headL typ seq ++ strL cid) ++ [58] := ⟨_, rfl⟩
          have hl0 : L0.length ≤ 10000 := by rw [hL0]; simp; omega
          have HB9 : Hid (Buf w3.heap.size w3 v9 L0 w9) := by rw [hL0, List.append_assoc]; exact hb9
          have HL0 : Hid (L0 = (headL typ seq ++ strL cid) ++ [58]) := hL0
          clear hb9 HB8 q4 hL0
          go_wp2_with fail
          go_loopw [7, 9] (fun b i wr => ∃ k : Nat, k ≤ fs.length ∧ i = .int .i64 k ∧ Hid (Buf w3.heap.size w3 b (L0 ++ flat fs k) wr)) (fun _ i _ => fs.length - (intOf i).toNat)
          case atStart => exact ⟨0, Nat.zero_le _, rfl, by simpa [flat] using HB9⟩
          case round =>
            obtain ⟨k, hk, rfl, HBr⟩ := hrel
            clear HB9
            have q4 := (HBr.out.cell HR3.out.1).trans HR3.out.2.2.2.2.2
            by_cases hlt : k < fs.length
            · obtain ⟨b, o, a1, c1, rfl, hbb, d, hsrc⟩ := HQ3.out.at hlt
              have k1 : (k : Int) < (fs.length : Int) := by omega
              have hfm := HSM.out.2.2.2 k hlt
              have hfl := HSM.out.2.2.1
              have hfl2 := flat_len fs HSM.out.2.2.2 k hk
              have d2 := keep_buf d hbb HBr.out
              have HSR := hsrc.below HBr.out.below
              have HFS : Hid (flat fs (k + 1) = flat fs k ++ (uvB (fs.getD k []).length ++ fs.getD k [])) := flat_succ fs k hlt
              have HSRC : Hid (Src w3 w3.heap.size (.slice a1 (fs.getD k []).length c1) (fs.getD k [])) := hsrc
              have HD : Hid (w3.cell? ⟨b, o + k, none⟩ = some (.slice a1 (fs.getD k []).length c1)) := d
              generalize fs.getD k [] = f at HD d2 hfm HFS HSRC
              have hwr : IntKind.u64.wrap (f.length : Int) = (f.length : Int) := by rw [IntKind.wrap_u64]; omega
              have HBB : Hid (b < w3.heap.size) := hbb
              clear hsrc HSR d hbb
              go_wp2_with fail
              refine (uv_own w3.heap.size w3 u7 _ (f.length : Int) wr (by omega) (by omega) HBr.out (by simp; omega)).mono ?_
              rintro e w12 ⟨v12, rfl, hb12⟩
              have HB12 : Hid (Buf w3.heap.size w3 v12 ((L0 ++ flat fs k) ++ uvB f.length) w12) := hb12
              have hul2 := uvB_len f.length
              have d3 := keep_buf HD.out HBB.out HB12.out
              have q5 := (HB12.out.cell HR3.out.1).trans HR3.out.2.2.2.2.2
              clear hb12 HBr d2 q4
              go_wp2_with (at_builtin; refine append_src rfl (.tmp 95) (.tmp 100) rfl w3.heap.size w3 v12 _ rfl HB12.out _ rfl _ f (HSRC.out.below HB12.out.below) (by simp; omega) ?_)
              intro v13 w13 hb13
              have hb14 : Buf w3.heap.size w3 v13 (L0 ++ flat fs (k + 1)) w13 := by rw [HFS.out]; simpa only [List.append_assoc] using hb13
              have HB13 : Hid (Buf w3.heap.size w3 v13 (L0 ++ flat fs (k + 1)) w13) := hb14
              clear hb13 hb14 HB12 d3 q5
              go_wp2_with fail
              go_roundw
              case rel => exact ⟨k + 1, by omega, by go_num, HB13⟩
              case measure => simp [intOf]; omega
            · have hk' : k = fs.length := by omega
              subst hk'
              have HBZ : Hid (Buf w3.heap.size w3 u7 (recL typ seq cid fs) wr) := by rw [HL.out, ← HL0.out]; exact HBr
              clear HBr HL HL0
              go_wp2_with fail
              refine (equal_same gv u7 (recL typ seq cid fs) wr _ _ (HG.out.below HBZ.out.below) HBZ.out.src).mono ?_
              rintro e w10 ⟨rfl, rfl⟩
              have c0 := (HBZ.out.cell HC3.out.1).trans HC3.out.2.1
              have c1 := (HBZ.out.cell HC3.out.1).trans HC3.out.2.2.1
              have c3 := (HBZ.out.cell HC3.out.1).trans HC3.out.2.2.2.1
              have c4 := (HBZ.out.cell HC3.out.1).trans HC3.out.2.2.2.2
              have q0 := (HBZ.out.cell HR3.out.1).trans HR3.out.2.1
              have q1 := (HBZ.out.cell HR3.out.1).trans HR3.out.2.2.1
              have n34 := fun w => neq34 w ⟨pb, 0, none⟩
              go_wp2_with fail
              go_quiet (fail)
              go_wp2_with fail
              refine forgetW (fun W => Buf w3.heap.size w3 u7 (recL typ seq cid fs) W) (HBZ.out.drewN _) ?_
              rintro w11 hb11
              have HB11 : Hid (Buf w3.heap.size w3 u7 (recL typ seq cid fs) w11) := hb11
              have k0 := (HB11.out.cell HK3.out.1).trans HK3.out.2.1
              have k1 := (HB11.out.cell HK3.out.1).trans HK3.out.2.2
              have t3 := (HB11.out.cell HR3.out.1).trans HR3.out.2.2.2.2.1
              have t4 := (HB11.out.cell HR3.out.1).trans HR3.out.2.2.2.2.2
              clear hb11 c0 c1 c3 c4 q0 q1 HBZ
              go_quiet ((go_at_call 14; exact Calls.quiet_of (same_q _ _ _ _ _ fs _ w3.heap.size w3.heap.size (by first | rfl | assumption) (HP3.out.below (HB11.out.drewN _).below) (HQ3.out.below (HB11.out.drewN _).below) HNN.out HSM.out.2.2.1)))
              go_wp2_with fail
              go_ret
              exact ⟨rfl, HB3.out.trans ((HB11.out.drewN _).below.mono HB3.out.size)⟩
end Go.Proofs.Ybulkbqjk
