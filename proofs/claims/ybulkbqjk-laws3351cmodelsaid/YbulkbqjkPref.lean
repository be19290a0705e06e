import Derived.Test.YbulkbqjkBe
import Derived.Lib.SliceRun
import Derived.Deep.QuietTactic
import Derived.BigQuiet
namespace Go.Proofs.Ybulkbqjk
open Go.RowKit
set_option linter.unusedVariables false

/-- A SLICE OF SLICES OF BYTES THAT LIES BELOW B (a: its address): it holds fs. -/
def Pref (w : World) (B : Nat) (a : Option Addr) (fs : List (List Int)) : Prop :=
  fs = [] ∨ ∃ b o, a = some ⟨b, o, none⟩ ∧ b < B ∧ ∀ i, i < fs.length → ∃ s, w.cell? ⟨b, o + i, none⟩ = some s ∧ Src w B s (fs.getD i [])

theorem Pref.below {w w' : World} {B : Nat} {a : Option Addr} {fs : List (List Int)} (h : Pref w B a fs) (hb : Below B w w') : Pref w' B a fs := by
  rcases h with h | ⟨b, o, e, hB, hc⟩
  · exact .inl h
  · refine .inr ⟨b, o, e, hB, fun i hi => ?_⟩
    obtain ⟨s, h1, h2⟩ := hc i hi
    exact ⟨s, (hb.cell hB).trans h1, h2.below hb⟩
theorem Pref.mono {w : World} {B B' : Nat} {a : Option Addr} {fs : List (List Int)} (h : Pref w B a fs) (hB : B ≤ B') : Pref w B' a fs := by
  rcases h with h | ⟨b, o, e, h1, hc⟩
  · exact .inl h
  · refine .inr ⟨b, o, e, Nat.lt_of_lt_of_le h1 hB, fun i hi => ?_⟩
    obtain ⟨s, k1, k2⟩ := hc i hi
    exact ⟨s, k1, k2.mono hB⟩
/-- Element i. -/
theorem Pref.at {w : World} {B : Nat} {a : Option Addr} {fs : List (List Int)} (h : Pref w B a fs) {i : Nat} (hi : i < fs.length) :
    ∃ b o a' c', a = some ⟨b, o, none⟩ ∧ b < B ∧ w.cell? ⟨b, o + i, none⟩ = some (.slice a' (fs.getD i []).length c') ∧ Src w B (.slice a' (fs.getD i []).length c') (fs.getD i []) := by
  rcases h with rfl | ⟨b, o, e, h1, hc⟩
  · simp at hi
  · obtain ⟨s, k1, k2⟩ := hc i hi
    obtain ⟨a', c', rfl⟩ := k2.slice
    exact ⟨b, o, a', c', e, h1, k1, k2⟩

/-- What zzs3351cbig lets by. -/
def Small (typ cid : ByteArray) (fs : List (List Int)) : Prop := typ.size ≤ 4096 ∧ cid.size ≤ 4096 ∧ fs.length ≤ 1024 ∧ ∀ i, i < fs.length → (fs.getD i []).length ≤ 4096

def BigPost (typ cid : ByteArray) (fs : List (List Int)) (w : World) (e : Ending) (w' : World) : Prop := ∃ b, e = .returned (.bool b) ∧ (b = false → Small typ cid fs) ∧ Below w.heap.size w w'

set_option maxHeartbeats 1000000 in
theorem big_any (typ cid : ByteArray) (seq : Int) (has : Bool) (a : Option Addr) (c : Nat) (fs : List (List Int)) (w : World) (hP : Pref w w.heap.size a fs) (ht : typ.size ≤ maxLen) (hc : cid.size ≤ maxLen) (hfl : fs.length ≤ maxLen) (hff : ∀ i, i < fs.length → (fs.getD i []).length ≤ maxLen) :
    Calls Yba.prog 9 #[.agg #[.string typ, .int .u64 seq, .bool has, .string cid, .slice a fs.length c]] w (BigPost typ cid fs w) := by
  unfold maxLen at ht hc hfl hff
  have HP : Hid (Pref w w.heap.size a fs) := hP
  have HF : Hid (∀ i, i < fs.length → (fs.getD i []).length ≤ 9223372036854775807) := hff
  clear hP hff
  by_cases h1 : 4096 < typ.size
  · have h1' : (4096 : Int) < (typ.size : Int) := by omega
    go_enter Yba.func9, Yba.ntmps9
    go_wp2_with fail
    go_ret
    exact ⟨true, rfl, fun h => (by cases h), (Below.refl _ _).alloc (Nat.le_refl _) _⟩
  have h1' : decide ((4096 : Int) < (typ.size : Int)) = false := by simp; omega
  by_cases h2 : 4096 < cid.size
  · have h2' : (4096 : Int) < (cid.size : Int) := by omega
    go_enter Yba.func9, Yba.ntmps9
    go_wp2_with fail
    go_ret
    exact ⟨true, rfl, fun h => (by cases h), (Below.refl _ _).alloc (Nat.le_refl _) _⟩
  have h2' : decide ((4096 : Int) < (cid.size : Int)) = false := by simp; omega
  by_cases h3 : 1024 < fs.length
  · have h3' : (1024 : Int) < (fs.length : Int) := by omega
    go_enter Yba.func9, Yba.ntmps9
    go_wp2_with fail
    go_ret
    exact ⟨true, rfl, fun h => (by cases h), (Below.refl _ _).alloc (Nat.le_refl _) _⟩
  have h3' : decide ((1024 : Int) < (fs.length : Int)) = false := by simp; omega
  go_enter Yba.func9, Yba.ntmps9
  go_wp2_with fail
  go_loop [3] (fun i => ∃ k : Nat, k ≤ fs.length ∧ i = .int .i64 k ∧ Hid (∀ j, j < k → (fs.getD j []).length ≤ 4096)) (fun i => fs.length - (intOf i).toNat)
  case atStart => exact ⟨0, Nat.zero_le _, rfl, fun j hj => by omega⟩
  case round =>
    obtain ⟨k, hk, rfl, HK⟩ := hrel
    by_cases hlt : k < fs.length
    · obtain ⟨b, o, a', c', rfl, hb, hcell, hsrc⟩ := HP.out.at hlt
      have hl := HF.out k hlt
      clear hsrc
      generalize hg : (fs.getD k []).length = m at hcell hl
      have hb' : b ≠ w.heap.size := by omega
      by_cases hm : 4096 < m
      · have hm' : (4096 : Int) < (m : Int) := by omega
        go_wp2_with fail
        go_ret
        exact ⟨true, rfl, fun h => (by cases h), (Below.refl _ _).alloc (Nat.le_refl _) _⟩
      · have hm' : ¬ (4096 : Int) < (m : Int) := by omega
        have HK' : Hid (∀ j, j < k + 1 → (fs.getD j []).length ≤ 4096) := fun j hj => by
          by_cases e : j = k
          · subst e; omega
          · exact HK.out j (by omega)
        clear hg
        go_wp2_with fail
        go_round
        case rel => exact ⟨k + 1, by omega, by go_num, HK'⟩
        case measure => simp [intOf]; omega
    · have hk' : k = fs.length := by omega
      subst hk'
      go_wp2_with fail
      go_ret
      exact ⟨false, rfl, fun _ => ⟨by omega, by omega, by omega, HK.out⟩, (Below.refl _ _).alloc (Nat.le_refl _) _⟩

def SamePost (w : World) (e : Ending) (w' : World) : Prop := e = .returned (.bool true) ∧ ∃ q, w' = w.drewN q

theorem eq_nil26 (w : World) (a : Option Addr) (n c : Nat) : (binOp .eql 26 (.slice a n c) (.slice none 0 0)).run Yba.prog w = .ok (.bool a.isNone) w := Lib.run_eql_slice_nil w 26 39 a n c 0 0 Yba.underlying26

set_option maxHeartbeats 1000000 in
/-- zzs3351csame of two that hold the same. -/
theorem same_any (a1 a2 : Option Addr) (c1 c2 : Nat) (fs : List (List Int)) (w : World) (B1 B2 : Nat) (h1 : Pref w B1 a1 fs) (h2 : Pref w B2 a2 fs) (hn : a1.isNone = a2.isNone) (hfl : fs.length ≤ 1024) :
    Calls Yba.prog 14 #[.slice a1 fs.length c1, .slice a2 fs.length c2] w (SamePost w) := by
  have H1 : Hid (Pref w B1 a1 fs) := h1
  have H2 : Hid (Pref w B2 a2 fs) := h2
  have e1 := fun w => eq_nil26 w a1 fs.length c1
  have e2 := fun w => eq_nil26 w a2 fs.length c2
  rw [hn] at e1
  obtain ⟨q, hq⟩ : ∃ q, q = a2.isNone := ⟨_, rfl⟩
  rw [← hq] at e1 e2
  clear h1 h2 hn hq
  go_enter Yba.func14, Yba.ntmps14
  go_wp2_with fail
  go_loopw [5] (fun i wr => ∃ k : Nat, k ≤ fs.length ∧ i = .int .i64 k ∧ Hid (∃ m, wr = w.drewN m)) (fun i _ => fs.length - (intOf i).toNat)
  case atStart => exact ⟨0, Nat.zero_le _, rfl, 0, rfl⟩
  case round =>
    obtain ⟨k, hk, rfl, HW⟩ := hrel
    by_cases hlt : k < fs.length
    · have p1 : Pref wr B1 a1 fs := by obtain ⟨m, e⟩ := HW.out; rw [e]; exact H1.out
      have p2 : Pref wr B2 a2 fs := by obtain ⟨m, e⟩ := HW.out; rw [e]; exact H2.out
      obtain ⟨b1, o1, a1', c1', rfl, hb1, d1, s1⟩ := p1.at hlt
      obtain ⟨b2, o2, a2', c2', rfl, hb2, d2, s2⟩ := p2.at hlt
      have k1 : (k : Int) < (fs.length : Int) := by omega
      generalize hf : fs.getD k [] = f at d1 d2 s1 s2
      have T1 : Hid (∀ n, Src (wr.drewN n) B1 (.slice a1' f.length c1') f) := fun n => s1
      have T2 : Hid (∀ n, Src (wr.drewN n) B2 (.slice a2' f.length c2') f) := fun n => s2
      clear hf s1 s2 p1 p2
      go_wp2_with fail
      go_quiet ((go_at_call 13; exact Calls.quiet_of_same (equal_same _ _ f _ B1 B2 (T1.out _) (T2.out _))))
      go_wp2_with fail
      go_roundw
      case rel =>
        refine ⟨k + 1, by omega, by go_num, ?_⟩
        obtain ⟨m, e⟩ := HW.out
        subst e
        exact ⟨m + nq, by simp [World.drewN, Nat.add_assoc]⟩
      case measure => simp [intOf]; omega
    · have hk' : k = fs.length := by omega
      subst hk'
      go_wp2_with fail
      go_ret
      exact ⟨rfl, HW.out⟩
end Go.Proofs.Ybulkbqjk
