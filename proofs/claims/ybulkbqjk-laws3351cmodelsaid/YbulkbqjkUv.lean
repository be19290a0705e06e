import Derived.Test.YbulkbqjkBase
namespace Go.Proofs.Ybulkbqjk
open Go.RowKit
set_option linter.unusedVariables false

/-- A uvarint's bytes, in at most so many bytes. -/
def uvF : Nat → Int → List Int
  | 0, _ => []
  | k + 1, y => if y < 128 then [y] else bits BinOp.or IntKind.u8 (y % 256) 128 :: uvF k (y / 128)
def uvB (x : Int) : List Int := uvF 10 x
theorem uvF_len : ∀ (k : Nat) (y : Int), (uvF k y).length ≤ k
  | 0, _ => Nat.le_refl _
  | k + 1, y => by
    unfold uvF
    split
    · simp
    · have := uvF_len k (y / 128)
      simp
      omega
theorem uvB_len (x : Int) : (uvB x).length ≤ 10 := uvF_len 10 x

/-- What the loop has done, and what is left. -/
def UvAt (l : List Int) (x : Int) (k : Nat) (y : Int) (l' : List Int) : Prop := l' ++ uvF k y = l ++ uvB x ∧ y < 128 ^ k ∧ l'.length + k ≤ l.length + 10 ∧ 1 ≤ k
theorem uv_start {l : List Int} {x : Int} (h : x < 18446744073709551616) : UvAt l x 10 x l := ⟨rfl, by omega, Nat.le_refl _, by omega⟩
theorem uv_more {l : List Int} {x : Int} {k : Nat} {y : Int} {l' : List Int} (h : UvAt l x k y l') (hy : 128 ≤ y) : ∃ k', k = k' + 1 ∧ UvAt l x k' (y / 128) (l' ++ [bits BinOp.or IntKind.u8 (y % 256) 128]) := by
  obtain ⟨h1, h2, h3, h4⟩ := h
  cases k with
  | zero => omega
  | succ k =>
    refine ⟨k, rfl, ?_, ?_, by simp; omega, ?_⟩
    · rw [← h1]
      have e : uvF (k + 1) y = bits BinOp.or IntKind.u8 (y % 256) 128 :: uvF k (y / 128) := by
        show (if y < 128 then [y] else _) = _
        rw [if_neg (by omega)]
      rw [e]
      simp
    · rw [Int.pow_succ] at h2
      exact Int.ediv_lt_of_lt_mul (by decide) h2
    · cases k with
      | zero => simp at h2; omega
      | succ k => omega
theorem uv_last {l : List Int} {x : Int} {k : Nat} {y : Int} {l' : List Int} (h : UvAt l x k y l') (h0 : 0 ≤ y) (hy : y < 128) : l' ++ [y] = l ++ uvB x := by
  obtain ⟨h1, h2, h3, h4⟩ := h
  cases k with
  | zero => omega
  | succ k =>
    rw [← h1]
    have e : uvF (k + 1) y = [y] := by
      show (if y < 128 then [y] else _) = _
      rw [if_pos hy]
    rw [e]

set_option maxHeartbeats 1000000 in
/-- zzs3351cuv. -/
theorem uv_own (B : Nat) (W0 : World) (v : Value) (l : List Int) (x : Int) (w : World) (hx0 : 0 ≤ x) (hx1 : x < 18446744073709551616) (hb : Buf B W0 v l w) (hlen : l.length ≤ 100000000) :
    Calls Yba.prog 12 #[v, .int .u64 x] w fun e w' => ∃ v', e = .returned v' ∧ Buf B W0 v' (l ++ uvB x) w' := by
  have HB : Hid (Buf B W0 v l w) := hb
  have HX : Hid (x < 18446744073709551616) := hx1
  clear hb hx1
  go_enter Yba.func12, Yba.ntmps12
  go_wp2_with fail
  go_loopw [0, 1] (fun b i wr => ∃ (k : Nat) (y : Int) (l' : List Int), 0 ≤ y ∧ i = .int .u64 y ∧ Hid (Buf B W0 b l' wr) ∧ Hid (UvAt l x k y l') ∧ l'.length ≤ 100000010) (fun _ i _ => (intOf i).toNat)
  case atStart => exact ⟨10, x, l, hx0, rfl, HB, uv_start HX.out, by omega⟩
  case round =>
    obtain ⟨k, y, l', hy0, rfl, HBr, HU, hl'⟩ := hrel
    by_cases hge : 128 ≤ y
    · go_wp2_with (at_builtin; refine append_byte rfl (.tmp 7) (.tmp 11) rfl B W0 _ l' rfl _ HBr.out rfl (by omega) ?_)
      intro v2 w2 hb2
      have HB2 : Hid (Buf B W0 v2 (l' ++ [bits BinOp.or IntKind.u8 (y % 256) 128]) w2) := hb2
      clear hb2 HBr
      go_wp2_with fail
      go_roundw
      case rel =>
        obtain ⟨k', _, hu⟩ := uv_more HU.out hge
        exact ⟨k', y / 128, _, by omega, by go_num, HB2, hu, by have := hu.2.2.1; omega⟩
      case measure => simp [intOf]; omega
    · go_wp2_with (at_builtin; refine append_byte rfl (.tmp 15) (.tmp 18) rfl B W0 _ l' rfl _ HBr.out rfl (by omega) ?_)
      intro v2 w2 hb2
      have HB2 : Hid (Buf B W0 v2 (l' ++ [y]) w2) := hb2
      clear hb2 HBr
      go_wp2_with fail
      go_ret
      refine ⟨v2, rfl, ?_⟩
      rw [← uv_last HU.out hy0 (by omega)]
      exact HB2.out

set_option maxHeartbeats 1000000 in
/-- encoding/binary.AppendUvarint: the same text. -/
theorem uv_lib (B : Nat) (W0 : World) (v : Value) (l : List Int) (x : Int) (w : World) (hx0 : 0 ≤ x) (hx1 : x < 18446744073709551616) (hb : Buf B W0 v l w) (hlen : l.length ≤ 100000000) :
    Calls Yba.prog 17 #[v, .int .u64 x] w fun e w' => ∃ v', e = .returned v' ∧ Buf B W0 v' (l ++ uvB x) w' := by
  have HB : Hid (Buf B W0 v l w) := hb
  have HX : Hid (x < 18446744073709551616) := hx1
  clear hb hx1
  go_enter Yba.func17, Yba.ntmps17
  go_wp2_with fail
  go_loopw [0, 1] (fun b i wr => ∃ (k : Nat) (y : Int) (l' : List Int), 0 ≤ y ∧ i = .int .u64 y ∧ Hid (Buf B W0 b l' wr) ∧ Hid (UvAt l x k y l') ∧ l'.length ≤ 100000010) (fun _ i _ => (intOf i).toNat)
  case atStart => exact ⟨10, x, l, hx0, rfl, HB, uv_start HX.out, by omega⟩
  case round =>
    obtain ⟨k, y, l', hy0, rfl, HBr, HU, hl'⟩ := hrel
    by_cases hge : 128 ≤ y
    · go_wp2_with (at_builtin; refine append_byte rfl (.tmp 7) (.tmp 11) rfl B W0 _ l' rfl _ HBr.out rfl (by omega) ?_)
      intro v2 w2 hb2
      have HB2 : Hid (Buf B W0 v2 (l' ++ [bits BinOp.or IntKind.u8 (y % 256) 128]) w2) := hb2
      clear hb2 HBr
      go_wp2_with fail
      go_roundw
      case rel =>
        obtain ⟨k', _, hu⟩ := uv_more HU.out hge
        exact ⟨k', y / 128, _, by omega, by go_num, HB2, hu, by have := hu.2.2.1; omega⟩
      case measure => simp [intOf]; omega
    · go_wp2_with (at_builtin; refine append_byte rfl (.tmp 15) (.tmp 18) rfl B W0 _ l' rfl _ HBr.out rfl (by omega) ?_)
      intro v2 w2 hb2
      have HB2 : Hid (Buf B W0 v2 (l' ++ [y]) w2) := hb2
      clear hb2 HBr
      go_wp2_with fail
      go_ret
      refine ⟨v2, rfl, ?_⟩
      rw [← uv_last HU.out hy0 (by omega)]
      exact HB2.out

/-- appendLengthPrefixed. -/
theorem alp_any (B B' : Nat) (W0 : World) (v fv : Value) (l f : List Int) (w : World) (hB' : B' ≤ B) (hb : Buf B W0 v l w) (hf : Src w B' fv f) (hlen : l.length ≤ 10000000) (hfl : f.length ≤ 10000000) :
    Calls Yba.prog 15 #[v, fv] w fun e w' => ∃ v', e = .returned v' ∧ Buf B W0 v' (l ++ (uvB f.length ++ f)) w' := by
  obtain ⟨a, c, e⟩ := hf.slice
  have HB : Hid (Buf B W0 v l w) := hb
  have HF : Hid (Src w B' fv f) := hf
  clear hb hf
  subst e
  go_enter Yba.func15, Yba.ntmps15
  go_wp2_with fail
  refine (uv_lib B W0 v l f.length w (by omega) (by omega) HB.out (by omega)).mono ?_
  rintro e w1 ⟨v1, rfl, hb1⟩
  have HB1 : Hid (Buf B W0 v1 (l ++ uvB f.length) w1) := hb1
  have HF1 : Hid (Src w1 B' (.slice a f.length c) f) := HF.out.step hB' HB.out hb1
  have hu := uvB_len f.length
  clear hb1 HB HF
  go_wp2_with (at_builtin; refine append_src rfl (.tmp 9) (.tmp 10) rfl B W0 _ _ rfl HB1.out _ rfl B' f HF1.out (by simp; omega) ?_)
  intro v2 w2 hb2
  have HB2 : Hid (Buf B W0 v2 (l ++ (uvB f.length ++ f)) w2) := hb2
  clear hb2 HB1 HF1
  go_wp2_with fail
  go_ret
  exact ⟨v2, rfl, HB2.out⟩
end Go.Proofs.Ybulkbqjk
