import Derived.Test.YbulkbqjkEncCp
namespace Go.Proofs.Ybulkbqjk
open Go.RowKit
set_option linter.unusedVariables false

/-- The law's record in block rb. -/
def Rec (w : World) (rb : Nat) (typ : ByteArray) (seq : Int) (has : Bool) (cid : ByteArray) (a : Option Addr) (n c : Nat) : Prop :=
  rb < w.heap.size ∧ w.cell? ⟨rb, 0, none⟩ = some (.string typ) ∧ w.cell? ⟨rb, 1, none⟩ = some (.int .u64 seq) ∧ w.cell? ⟨rb, 2, none⟩ = some (.bool has) ∧ w.cell? ⟨rb, 3, none⟩ = some (.string cid) ∧ w.cell? ⟨rb, 4, none⟩ = some (.slice a n c)
theorem Rec.below {w w' : World} {rb : Nat} {typ : ByteArray} {seq : Int} {has : Bool} {cid : ByteArray} {a : Option Addr} {n c : Nat} (h : Rec w rb typ seq has cid a n c) {B : Nat} (hb : Below B w w') (hB : rb < B) : Rec w' rb typ seq has cid a n c :=
  ⟨Nat.lt_of_lt_of_le h.1 hb.size, (hb.cell hB).trans h.2.1, (hb.cell hB).trans h.2.2.1, (hb.cell hB).trans h.2.2.2.1, (hb.cell hB).trans h.2.2.2.2.1, (hb.cell hB).trans h.2.2.2.2.2⟩
theorem rec_new (w : World) (typ : ByteArray) (seq : Int) (has : Bool) (cid : ByteArray) (a : Option Addr) (n c : Nat) : Rec (w.alloc (.cells #[.string typ, .int .u64 seq, .bool has, .string cid, .slice a n c] 28)) w.heap.size typ seq has cid a n c := by
  refine ⟨by simp, ?_, ?_, ?_, ?_, ?_⟩ <;> simp [World.cell?_alloc_new]

theorem client_new (w : World) (typ : ByteArray) (p : Value) (seq : Int) (x : Value) : Client (w.alloc (.cells #[.string ⟨#[120]⟩, .string typ, x, p, .int .u64 seq] 36)) w.heap.size typ p seq := by
  refine ⟨by simp, ?_, ?_, ?_, ?_⟩ <;> simp [World.cell?_alloc_new]

/-- The hand-made record's head: its first k bytes of the number. -/
def preL (typ : ByteArray) (seq : Int) (k : Nat) : List Int := (uvB (strL typ).length ++ strL typ) ++ (be8 seq).take k
theorem preL_len (typ : ByteArray) (seq : Int) (k : Nat) (h : typ.size ≤ 4096) : (preL typ seq k).length ≤ 4114 := by
  have h1 := uvB_len (strL typ).length
  have h2 := strL_len typ
  have h3 : ((be8 seq).take k).length ≤ 8 := by rw [List.length_take]; exact Nat.min_le_right _ _
  unfold preL
  rw [List.length_append, List.length_append]
  omega
theorem preL_eight (typ : ByteArray) (seq : Int) : preL typ seq 8 = headL typ seq := rfl
theorem preL_step (typ : ByteArray) (seq : Int) (k : Nat) (hk : k < 8) : preL typ seq (k + 1) = preL typ seq k ++ [(be8 seq).getD k 0] := by
  have h8 : k < (be8 seq).length := hk
  have h := List.take_succ_eq_append_getElem h8
  unfold preL
  rw [h, List.getD_eq_getElem?_getD, List.getElem?_eq_getElem h8, Option.getD_some, List.append_assoc, List.append_assoc, List.append_assoc]

def StepAt (typ : ByteArray) (seq : Int) (k : Nat) : Prop := ∃ m : Nat, m ≤ 8 ∧ Value.int .i64 (7 - (k : Int) - 1) = .int .i64 (7 - (m : Int)) ∧ preL typ seq m = preL typ seq k ++ [(be8 seq).getD k 0]

def LawPost (w : World) (e : Ending) (w' : World) : Prop := e = .returned (.bool true) ∧ Below w.heap.size w w'

set_option maxRecDepth 100000 in
set_option maxHeartbeats 4000000 in
/-- The law, no counterparty. -/
theorem law_none (typ cid : ByteArray) (seq : Int) (a : Option Addr) (c : Nat) (fs : List (List Int)) (w : World) (hP : Pref w w.heap.size a fs) (ht : typ.size ≤ maxLen) (hc : cid.size ≤ maxLen) (hfl : fs.length ≤ maxLen) (hff : ∀ i, i < fs.length → (fs.getD i []).length ≤ maxLen)
    (hnil : a = none → fs = [] ∧ c = 0) (hs0 : 0 ≤ seq) (hs1 : seq < 18446744073709551616) :
    Calls Yba.prog 5 #[.agg #[.string typ, .int .u64 seq, .bool false, .string cid, .slice a fs.length c]] w (LawPost w) := by
  have HP : Hid (Pref w w.heap.size a fs) := hP
  have HN : Hid (a = none → fs = [] ∧ c = 0) := hnil
  have HS : Hid (seq < 18446744073709551616) := hs1
  have HM : Hid ((typ.size ≤ maxLen) ∧ cid.size ≤ maxLen ∧ fs.length ≤ maxLen ∧ ∀ i, i < fs.length → (fs.getD i []).length ≤ maxLen) := ⟨ht, hc, hfl, hff⟩
  clear hP hnil hs1 ht hc hfl hff
  go_enter Yba.func5, Yba.ntmps5
  go_wp2_with fail
  have HB0 : Hid (Below w.heap.size w (w.alloc (.cells #[.string typ, .int .u64 seq, .bool false, .string cid, .slice a fs.length c] 28))) := (Below.refl _ w).alloc (Nat.le_refl _) _
  refine (big_any typ cid seq false a c fs _ ((HP.out.below HB0.out).mono (by simp)) HM.out.1 HM.out.2.1 HM.out.2.2.1 HM.out.2.2.2).mono ?_
  rintro e w1 ⟨b, rfl, hsm, hb1⟩
  have HR : Hid (Rec w1 w.heap.size typ seq false cid a fs.length c) := (rec_new w typ seq false cid a fs.length c).below hb1 (by simp)
  have HB1 : Hid (Below w.heap.size w w1) := HB0.out.trans (hb1.mono (by simp))
  have HP1 : Hid (Pref w1 w1.heap.size a fs) := (HP.out.below HB1.out).mono HB1.out.size
  generalize w.heap.size = rb at HR
  clear hb1 HB0 HP HM
  cases b with
  | true =>
    go_wp2_with fail
    go_ret
    exact ⟨rfl, HB1.out⟩
  | false =>
    have HSM : Hid (Small typ cid fs) := hsm rfl
    clear hsm
    have r4 := HR.out.2.2.2.2.2
    go_wp2_with fail
    refine (clone_any a c fs w1 HP1.out HN.out HSM.out.2.2.1 HSM.out.2.2.2).mono ?_
    rintro e w2 ⟨a', c', rfl, hp2, hnn, hb2⟩
    have HR2 : Hid (Rec w2 rb typ seq false cid a fs.length c) := HR.out.below hb2 HR.out.1
    have HB2 : Hid (Below w.heap.size w w2) := HB1.out.trans (hb2.mono HB1.out.size)
    clear HR HB1 HP1 hp2 hnn hb2 r4
    have r0 := HR2.out.2.1
    have r1 := HR2.out.2.2.1
    have r2 := HR2.out.2.2.2.1
    have hrb := HR2.out.1
    go_wp2_with fail
    have HBW : Hid (Below w2.heap.size w2 (w2.alloc (.cells #[.string ⟨#[120]⟩, .string typ, .nilIface, .pointer none, .int .u64 seq] 36))) := (Below.refl _ w2).alloc (Nat.le_refl _) _
    refine (enc_none w2.heap.size typ seq _ (client_new w2 typ (.pointer none) seq .nilIface) HSM.out.1 hs0 HS.out).mono ?_
    rintro e w3 ⟨gv, rfl, hgv, hb3⟩
    have HC3 : Hid (Client w3 w2.heap.size typ (.pointer none) seq) := (client_new w2 typ (.pointer none) seq .nilIface).below hb3 (by simp)
    have HB23 : Hid (Below w2.heap.size w2 w3) := HBW.out.trans (hb3.mono (by simp))
    have HR3 : Hid (Rec w3 rb typ seq false cid a fs.length c) := HR2.out.below HB23.out hrb
    have HB3 : Hid (Below w.heap.size w w3) := HB2.out.trans (HB23.out.mono HB2.out.size)
    have HG : Hid (Src w3 w3.heap.size gv (headL typ seq)) := hgv
    generalize w2.heap.size = cb at HC3 ⊢
    clear hgv hb3 HBW HB23 HB2 HR2 r0 r1 r2 hrb w2 HN w1
    have r0 := HR3.out.2.1
    have ht := HSM.out.1
    have hsl := strL_len typ
    have hwr : IntKind.u64.wrap (typ.size : Int) = (typ.size : Int) := by rw [IntKind.wrap_u64]; omega
    go_wp2_with fail
    rw [show (typ.size : Int) = ((strL typ).length : Int) by rw [hsl]]
    refine (uv_own w3.heap.size w3 (.slice none 0 0) [] ((strL typ).length : Int) w3 (by omega) (by omega) (Buf.nil w3 (Nat.le_refl _)) (by simp)).mono ?_
    rintro e w4 ⟨v4, rfl, hb4⟩
    rw [List.nil_append] at hb4
    have HB4 : Hid (Buf w3.heap.size w3 v4 (uvB (strL typ).length) w4) := hb4
    have s0 := (HB4.out.cell HR3.out.1).trans HR3.out.2.1
    have hul := uvB_len (strL typ).length
    clear hb4 r0 hwr
    go_wp2_with (at_builtin; refine append_str rfl (.tmp 39) (.tmp 41) rfl w3.heap.size w3 v4 _ rfl typ HB4.out rfl (by omega) ?_)
    intro v5 w5 hb5
    have HB5 : Hid (Buf w3.heap.size w3 v5 (preL typ seq 0) w5) := by unfold preL; rw [List.take_zero, List.append_nil, hsl]; exact hb5
    clear hb5 HB4 s0
    go_wp2_with fail
    go_loopw [7, 8] (fun b i wr => ∃ k : Nat, k ≤ 8 ∧ i = .int .i64 (7 - k) ∧ Hid (Buf w3.heap.size w3 b (preL typ seq k) wr)) (fun _ i _ => (intOf i + 1).toNat)
    case atStart => exact ⟨0, by omega, rfl, HB5⟩
    case round =>
      obtain ⟨k, hk, rfl, HBr⟩ := hrel
      clear HB5
      by_cases hlt : k < 8
      · have q1 := (HBr.out.cell HR3.out.1).trans HR3.out.2.2.1
        have hpl := preL_len typ seq k ht
        have HST : Hid (StepAt typ seq k) := ⟨k + 1, by omega, by congr 1; omega, preL_step typ seq k hlt⟩
        obtain rfl | rfl | rfl | rfl | rfl | rfl | rfl | rfl : k = 0 ∨ k = 1 ∨ k = 2 ∨ k = 3 ∨ k = 4 ∨ k = 5 ∨ k = 6 ∨ k = 7 := by omega
        all_goals
          go_wp2_with (at_builtin; refine append_byte rfl (.tmp 47) (.tmp 55) rfl w3.heap.size w3 u7 _ rfl _ HBr.out rfl (by omega) ?_)
          intro v6 w6 hb6
          clear HBr q1 hpl
          go_wp2_with fail
          go_roundw
          case rel =>
            obtain ⟨m, h1, h2, h3⟩ := HST.out
            exact ⟨m, h1, h2, by rw [h3]; exact hb6⟩
          case measure => simp [intOf]
      · obtain rfl : k = 8 := by omega
        have q2 := (HBr.out.cell HR3.out.1).trans HR3.out.2.2.2.1
        go_wp2_with fail
        rw [preL_eight] at HBr
        refine (equal_same gv u7 (headL typ seq) wr _ _ (HG.out.below HBr.out.below) HBr.out.src).mono ?_
        rintro e w7 ⟨rfl, rfl⟩
        have c0 := (HBr.out.cell HC3.out.1).trans HC3.out.2.1
        have c1 := (HBr.out.cell HC3.out.1).trans HC3.out.2.2.1
        have c3 := (HBr.out.cell HC3.out.1).trans HC3.out.2.2.2.1
        have c4 := (HBr.out.cell HC3.out.1).trans HC3.out.2.2.2.2
        have q0 := (HBr.out.cell HR3.out.1).trans HR3.out.2.1
        have q1 := (HBr.out.cell HR3.out.1).trans HR3.out.2.2.1
        go_wp2_with fail
        go_quiet (fail)
        go_wp2_with fail
        go_quiet (fail)
        go_wp2_with fail
        go_ret
        refine ⟨rfl, ?_⟩
        exact HB3.out.trans (((HBr.out.drewN _).drewN _).below.mono HB3.out.size)
end Go.Proofs.Ybulkbqjk
