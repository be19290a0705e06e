import Derived.Test.YbulkbqjkEnc
namespace Go.Proofs.Ybulkbqjk
open Go.RowKit
set_option linter.unusedVariables false

/-- A counterparty in block pb. -/
def Cp (w : World) (pb : Nat) (cid : ByteArray) (a : Option Addr) (c : Nat) (fs : List (List Int)) : Prop := pb < w.heap.size ∧ w.cell? ⟨pb, 0, none⟩ = some (.string cid) ∧ w.cell? ⟨pb, 1, none⟩ = some (.slice a fs.length c)
theorem Cp.below {w w' : World} {pb : Nat} {cid : ByteArray} {a : Option Addr} {c : Nat} {fs : List (List Int)} (h : Cp w pb cid a c fs) {B : Nat} (hb : Below B w w') (hB : pb < B) : Cp w' pb cid a c fs :=
  ⟨Nat.lt_of_lt_of_le h.1 hb.size, (hb.cell hB).trans h.2.1, (hb.cell hB).trans h.2.2⟩

theorem keep_buf {B : Nat} {W0 w : World} {v : Value} {l : List Int} {b o : Nat} {s : Value} (hc : W0.cell? ⟨b, o, none⟩ = some s) (hb : b < B) (h : Buf B W0 v l w) : w.cell? ⟨b, o, none⟩ = some s := (h.cell hb).trans hc

set_option maxRecDepth 100000 in
set_option maxHeartbeats 2000000 in
/-- encode, a counterparty. -/
theorem enc_cp (cb pb : Nat) (typ cid : ByteArray) (seq : Int) (a : Option Addr) (c : Nat) (fs : List (List Int)) (w : World) (hC : Client w cb typ (.pointer (some ⟨pb, 0, none⟩)) seq) (hK : Cp w pb cid a c fs) (hP : Pref w w.heap.size a fs)
    (hsm : Small typ cid fs) (hs0 : 0 ≤ seq) (hs1 : seq < 18446744073709551616) :
    Calls Yba.prog 11 #[.pointer (some ⟨cb, 0, none⟩)] w (EncPost (recL typ seq cid fs) w) := by
  obtain ⟨ht, hci, hfl, hff⟩ := hsm
  have hcv : ∀ w, (convert 9 39 (.string typ)).run Yba.prog w = .ok (.slice (some ⟨w.heap.size, 0, none⟩) typ.size (grownCap w typ.size 0 5)) (Lib.bytesWorld w 5 typ) := fun w => Lib.run_convert_string_bytes w 9 39 5 typ Yba.underlying9 Yba.underlying39 Yba.underlying5
  have c1 := hC.2.2.1
  have HC : Hid (Client w cb typ (.pointer (some ⟨pb, 0, none⟩)) seq) := hC
  have HK : Hid (Cp w pb cid a c fs) := hK
  have HP : Hid (Pref w w.heap.size a fs) := hP
  have HS : Hid (seq < 18446744073709551616) := hs1
  have HF : Hid (∀ i, i < fs.length → (fs.getD i []).length ≤ 4096) := hff
  clear hC hs1 hK hP hff
  go_enter Yba.func11, Yba.ntmps11
  go_wp2_with fail
  refine forget (fun W => Below w.heap.size w W ∧ w.heap.size ≤ W.heap.size ∧ Src W W.heap.size (.slice (some ⟨w.heap.size, 0, none⟩) typ.size (grownCap w typ.size 0 5)) (strL typ)) ?_ ?_
  · exact ⟨below_bytes w typ, by rw [Lib.bytesWorld_size]; omega, src_bytes w typ _⟩
  clear hcv c1
  rintro W ⟨hb, hsz, hsrc⟩
  have HBW : Hid (Below w.heap.size w W) := hb
  have HCW : Hid (Client W cb typ (.pointer (some ⟨pb, 0, none⟩)) seq) := HC.out.below hb HC.out.1
  have HKW : Hid (Cp W pb cid a c fs) := HK.out.below hb HK.out.1
  have HPW : Hid (Pref W W.heap.size a fs) := (HP.out.below hb).mono hsz
  have hsl := strL_len typ
  refine (alp_any W.heap.size W.heap.size W (.slice none 0 0) _ [] (strL typ) W (Nat.le_refl _) (Buf.nil W (Nat.le_refl _)) hsrc (by simp) (by omega)).mono ?_
  rintro e w1 ⟨v1, rfl, hb1⟩
  rw [List.nil_append] at hb1
  have HB1 : Hid (Buf W.heap.size W v1 (uvB (strL typ).length ++ strL typ) w1) := hb1
  have d4 : w1.cell? ⟨cb, 4, none⟩ = some (.int .u64 seq) := (hb1.cell HCW.out.1).trans HCW.out.2.2.2.2
  clear hb hsz hsrc hb1 HC HK HP
  go_wp2_with fail
  go_still_tail 6, Yba.mixed
  go_wp2_with fail
  have hul := uvB_len (strL typ).length
  refine (be_any W.heap.size W v1 _ seq w1.drew hs0 HS.out HB1.out.drew (by simp; omega)).mono ?_
  rintro e w2 ⟨v2, rfl, hb2⟩
  have HB2 : Hid (Buf W.heap.size W v2 (headL typ seq) w2) := hb2
  have e3 : w2.cell? ⟨cb, 3, none⟩ = some (.pointer (some ⟨pb, 0, none⟩)) := (hb2.cell HCW.out.1).trans HCW.out.2.2.2.1
  have e0 : w2.cell? ⟨pb, 0, none⟩ = some (.string cid) := (hb2.cell HKW.out.1).trans HKW.out.2.1
  have hhl := headL_len typ seq ht
  have hcl := strL_len cid
  clear hb2 HB1 d4 hul
  go_wp2_with (at_builtin; refine append_str rfl (.tmp 26) (.tmp 33) rfl W.heap.size W v2 _ rfl cid HB2.out rfl (by omega) ?_)
  intro v3 w3 hb3
  have HB3 : Hid (Buf W.heap.size W v3 (headL typ seq ++ strL cid) w3) := hb3
  have f3 : w3.cell? ⟨cb, 3, none⟩ = some (.pointer (some ⟨pb, 0, none⟩)) := (hb3.cell HCW.out.1).trans HCW.out.2.2.2.1
  have f1 : w3.cell? ⟨pb, 1, none⟩ = some (.slice a fs.length c) := (hb3.cell HKW.out.1).trans HKW.out.2.2
  clear hb3 HB2 e3 e0
  by_cases h1 : fs.length = 1
  · obtain ⟨b, o, a', c', rfl, hbb, d, hsrc⟩ := HPW.out.at (i := 0) (by omega)
    rw [Nat.add_zero] at d
    have HL : Hid (recL typ seq cid fs = ((headL typ seq ++ strL cid) ++ [47]) ++ fs.getD 0 []) := by show recL typ seq cid fs = _; unfold recL; rw [if_pos h1]
    have hfm := HF.out 0 (by omega)
    generalize hf : fs.getD 0 [] = f at d hsrc HL hfm
    have HSRC : Hid (Src W W.heap.size (.slice a' f.length c') f) := hsrc
    have g0 := keep_buf d hbb HB3.out
    clear hf hsrc
    go_wp2_with fail
    go_region_held3 (fun w' => w'.cell? ⟨b, o, none⟩ = some (.slice a' f.length c'))
      (first | exact g0 | exact keep_buf d hbb (HB3.out.drew.alloc _) | exact keep_buf d hbb (by assumption))
      (first
        | (refine step_append_src rfl (.tmp 45) (.tmp 46) rfl W.heap.size W v3 _ rfl (HB3.out.drew.alloc _) _ rfl _ [47] (src_new w3.drew [47] _ (by simp)) (by simp; omega) ?_; intro v4 w4 hb4)
        | (refine step_append_src rfl (.tmp 47) (.tmp 50) rfl W.heap.size W v4 _ rfl hb4 _ rfl _ f (HSRC.out.below hb4.below) (by simp; omega) ?_; intro v5 w5 hb5))
    go_wp2_with fail
    go_ret
    refine ⟨v5, rfl, ?_, HBW.out.trans (hb5.below.mono HBW.out.size)⟩
    rw [HL.out]
    exact hb5.src
  · have h1' : ((fs.length : Int) == 1) = false := by simp; omega
    have HL : Hid (recL typ seq cid fs = ((headL typ seq ++ strL cid) ++ [58]) ++ flat fs fs.length) := by show recL typ seq cid fs = _; unfold recL; rw [if_neg h1]
    clear h1
    go_wp2_with (at_builtin; refine append_byte rfl (.tmp 52) (.tmp 53) rfl W.heap.size W v3 _ rfl _ HB3.out rfl (by simp; omega) ?_)
    intro v4 w4 hb4
    have HB4 : Hid (Buf W.heap.size W v4 ((headL typ seq ++ strL cid) ++ [58]) w4) := by rw [List.append_assoc]; exact hb4
    obtain ⟨L0, hL0⟩ : ∃ L0, L0 = (headL typ seq ++ strL cid) ++ [58] := ⟨_, rfl⟩
    have hl0 : L0.length ≤ 10000 := by rw [hL0]; simp; omega
    have HB5 : Hid (Buf W.heap.size W v4 L0 w4) := by rw [hL0]; exact HB4
    have HL0 : Hid (L0 = (headL typ seq ++ strL cid) ++ [58]) := hL0
    clear hb4 HB4 HB3 f3 f1 hL0
    go_wp2_with fail
    go_loopw [3, 57] (fun b i wr => ∃ k : Nat, k ≤ fs.length ∧ i = .int .i64 k ∧ Hid (Buf W.heap.size W b (L0 ++ flat fs k) wr)) (fun _ i _ => fs.length - (intOf i).toNat)
    case atStart => exact ⟨0, Nat.zero_le _, rfl, by simpa [flat] using HB5⟩
    case round =>
      obtain ⟨k, hk, rfl, HBr⟩ := hrel
      clear HB5
      by_cases hlt : k < fs.length
      · obtain ⟨b, o, a', c', rfl, hbb, d, hsrc⟩ := HPW.out.at hlt
        have k1 : (k : Int) < (fs.length : Int) := by omega
        have hfm := HF.out k hlt
        have hfl2 := flat_len fs HF.out k hk
        have d2 := keep_buf d hbb HBr.out
        have HSR := hsrc.below HBr.out.below
        have HFS : Hid (flat fs (k + 1) = flat fs k ++ (uvB (fs.getD k []).length ++ fs.getD k [])) := flat_succ fs k hlt
        have HSRC : Hid (Src wr W.heap.size (.slice a' (fs.getD k []).length c') (fs.getD k [])) := HSR
        generalize fs.getD k [] = f at d d2 hfm HFS HSRC
        clear hsrc HSR d
        go_wp2_with fail
        refine (alp_any W.heap.size W.heap.size W _ _ _ f wr (Nat.le_refl _) HBr.out HSRC.out (by simp; omega) (by omega)).mono ?_
        rintro e w6 ⟨v6, rfl, hb6⟩
        have HB6 : Hid (Buf W.heap.size W v6 (L0 ++ flat fs (k + 1)) w6) := by rw [HFS.out, ← List.append_assoc]; exact hb6
        clear hb6 HBr d2 HSRC
        go_wp2_with fail
        go_roundw
        case rel => exact ⟨k + 1, by omega, by go_num, HB6⟩
        case measure => simp [intOf]; omega
      · have hk' : k = fs.length := by omega
        subst hk'
        go_wp2_with fail
        go_ret
        refine ⟨_, rfl, ?_, HBW.out.trans (HBr.out.below.mono HBW.out.size)⟩
        rw [HL.out, ← HL0.out]
        exact HBr.out.src
end Go.Proofs.Ybulkbqjk
