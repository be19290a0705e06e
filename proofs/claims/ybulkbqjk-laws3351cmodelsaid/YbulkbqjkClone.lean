import Derived.Test.YbulkbqjkPref
import Derived.Laws.CopyOwn
namespace Go.Proofs.Ybulkbqjk
open Go.RowKit
set_option linter.unusedVariables false

theorem Yba.size5 : (Yba.prog.info? 5).map (·.size) = some 1 := by kernel_rfl
theorem Yba.info39 : (Yba.prog.info? 39).map (fun i => (i.zero, i.size, i.bytes)) = some (some (.slice none 0 0), 1, 24) := by kernel_rfl
theorem neq_nil39 (w : World) (a : Option Addr) (n c : Nat) : (binOp .neq 39 (.slice a n c) (.slice none 0 0)).run Yba.prog w = .ok (.bool (!a.isNone)) w := run_neq_slice_nil_any w 39 5 a n c 0 0 Yba.underlying39

/-- What 'k := make([]byte, len(p)); copy(k, p)' comes to. -/
theorem copy_src (w : World) (sv : Value) (f : List Int) (hs : Src w w.heap.size sv f) :
    ∃ w1, (∀ ty, (Builtin.copy_ #[39, 39] ty #[.slice (some ⟨w.heap.size, 0, none⟩) f.length f.length, sv]).run Yba.prog (w.alloc (.cells (madeCells #[.int .u8 0] f.length) 5)) = .ok (goInt f.length) w1) ∧
      Below w.heap.size w w1 ∧ w1.heap.size = w.heap.size + 1 ∧ Src w1 w1.heap.size (.slice (some ⟨w.heap.size, 0, none⟩) f.length f.length) f := by
  have hblk : (w.alloc (.cells (madeCells #[.int .u8 0] f.length) 5)).heap[w.heap.size]? = some (.cells (madeCells #[.int .u8 0] f.length) 5 (0, 0)) := Deep.blk_alloc_new _ _
  obtain ⟨a, c, e⟩ := hs.slice
  by_cases h0 : f.length = 0
  · have hf : f = [] := List.eq_nil_of_length_eq_zero h0
    subst hf
    subst e
    exact ⟨_, fun ty => run_copy_none (P := Yba.prog) _ 39 39 ty 5 _ _ _ _ _ _ Yba.underlying39 Yba.size5 (by simp), (Below.refl _ _).alloc (Nat.le_refl _) _, by simp, .inr ⟨_, _, rfl, fun j hj => by simp at hj⟩⟩
  · rcases hs with ⟨_, rfl⟩ | ⟨ad, c', e', hc⟩
    · simp at h0
    · subst e'
      have hl : (bv f).length = f.length := bv_len f
      have hsrc : ∀ j v, (bv f)[j]? = some v → (w.alloc (.cells (madeCells #[.int .u8 0] f.length) 5)).cell? (ad.add j) = some v := by
        intro j v hj
        obtain ⟨h1, rfl⟩ := bv_get hj
        have e1 : (w.alloc (.cells (madeCells #[.int .u8 0] f.length) 5)).cell? (ad.add j) = w.cell? (ad.add j) := ((Below.refl w.heap.size w).alloc (Nat.le_refl _) _).cell (by rw [add_block]; exact (hc j h1).1)
        rw [e1]
        exact (hc j h1).2
      have hrun := fun ty => run_copy_row (P := Yba.prog) (w.alloc (.cells (madeCells #[.int .u8 0] f.length) 5)) 39 39 ty 5 w.heap.size 0 f.length f.length ad f.length c' (madeCells #[.int .u8 0] f.length) 5 (bv f)
        Yba.underlying39 Yba.size5 hblk (by rw [hl]; simp) hsrc (by rw [hl, size_madeCells]; omega) (bv_one f)
      rw [hl] at hrun
      have hd : (madeCells #[.int .u8 0] f.length).toList.drop (0 + f.length) = [] := List.drop_eq_nil_of_le (by rw [Array.length_toList, size_madeCells]; omega)
      rw [hd] at hrun
      refine ⟨_, hrun, below_setRow ((Below.refl _ _).alloc (Nat.le_refl _) _) (Nat.le_refl _) _, by simp [World.setRow], ?_⟩
      refine .inr ⟨_, _, rfl, fun j hj => ⟨by show w.heap.size < _; simp [World.setRow], ?_⟩⟩
      have hb2 := setRow_heap (w.alloc (.cells (madeCells #[.int .u8 0] f.length) 5)) w.heap.size _ ((madeCells #[.int .u8 0] f.length).toList.take 0 ++ bv f ++ []).toArray 5 _ hblk
      have ea : (⟨w.heap.size, 0, none⟩ : Addr).add j = ⟨w.heap.size, j, none⟩ := by unfold Addr.add; split <;> simp_all
      rw [ea, cell_of_row _ _ _ _ 5 (0, 0) hb2]
      simp [bv, hj]

/-- The clone's loop, behind k rounds. -/
def Cl (w wr : World) (fs : List (List Int)) (k : Nat) : Prop :=
  ∃ S : Nat → Value, wr.rowIs w.heap.size 39 fs.length S ∧ (∀ j, j < k → Src wr wr.heap.size (S j) (fs.getD j []) ∧ ∀ ad m c, S j = .slice (some ad) m c → ad.block ≠ w.heap.size) ∧ (∀ j, k ≤ j → S j = .slice none 0 0) ∧ Below w.heap.size w wr

theorem Src.of_heap {w w' : World} {B B' : Nat} {v : Value} {f : List Int} (h : Src w B v f) (hB : B ≤ B') (e : ∀ ad m c, v = .slice (some ad) m c → ad.block < B → w'.heap[ad.block]? = w.heap[ad.block]?) : Src w' B' v f := by
  rcases h with h | ⟨ad, c, rfl, hc⟩
  · exact .inl h
  · refine .inr ⟨ad, c, rfl, fun j hj => ⟨Nat.lt_of_lt_of_le (hc j hj).1 hB, ?_⟩⟩
    rw [← (hc j hj).2]
    exact World.cell?_of_block (by rw [add_block]; exact e ad _ _ rfl (hc j hj).1)

theorem cl_start (w : World) (fs : List (List Int)) : Cl w (w.alloc (.cells (madeCells #[.slice none 0 0] fs.length) 39)) fs 0 :=
  ⟨fun _ => .slice none 0 0, World.rowIs_made w (.slice none 0 0) fs.length 39, fun j hj => by omega, fun _ _ => rfl, (Below.refl _ _).alloc (Nat.le_refl _) _⟩
theorem cl_nil {w wr : World} {fs : List (List Int)} {k : Nat} (h : Cl w wr fs k) (hf : fs.getD k [] = []) : Cl w wr fs (k + 1) := by
  obtain ⟨S, h1, h2, h3, h4⟩ := h
  refine ⟨S, h1, fun j hj => ?_, fun j hj => h3 j (by omega), h4⟩
  by_cases e : j = k
  · subst e
    rw [h3 j (Nat.le_refl _), hf]
    exact ⟨.inl ⟨rfl, rfl⟩, fun ad m c h => (by simp at h)⟩
  · exact h2 j (by omega)
theorem cl_put {w wr w1 : World} {fs : List (List Int)} {k : Nat} (h : Cl w wr fs k) (hb : Below wr.heap.size wr w1) (hs : w1.heap.size = wr.heap.size + 1) (hsrc : Src w1 w1.heap.size (.slice (some ⟨wr.heap.size, 0, none⟩) (fs.getD k []).length (fs.getD k []).length) (fs.getD k [])) (hw : w.heap.size < wr.heap.size) :
    Cl w (w1.setCell ⟨w.heap.size, k, none⟩ (.slice (some ⟨wr.heap.size, 0, none⟩) (fs.getD k []).length (fs.getD k []).length)) fs (k + 1) := by
  obtain ⟨S, h1, h2, h3, h4⟩ := h
  have hz : (w1.setCell ⟨w.heap.size, k, none⟩ (.slice (some ⟨wr.heap.size, 0, none⟩) (fs.getD k []).length (fs.getD k []).length)).heap.size = w1.heap.size := by simp
  refine ⟨_, (h1.of_block (hb.block _ hw)).set k _, fun j hj => ?_, fun j hj => ?_, (h4.trans (hb.mono (by omega))).setCell (Nat.le_refl _) _⟩
  · by_cases e : j = k
    · subst e
      show Src _ _ (if j = j then _ else _) _ ∧ _
      simp only [if_true]
      refine ⟨hsrc.of_heap (by rw [hz]; exact Nat.le_refl _) (fun ad m c he _ => ?_), fun ad m c he => ?_⟩
      · simp at he
        obtain ⟨rfl, _, _⟩ := he
        exact Below.heap_setCell _ _ _ _ (by show wr.heap.size ≠ w.heap.size; omega)
      · simp at he
        obtain ⟨rfl, _, _⟩ := he
        show wr.heap.size ≠ w.heap.size
        omega
    · obtain ⟨k1, k2⟩ := h2 j (by omega)
      show Src _ _ (if j = k then _ else S j) _ ∧ _
      simp only [if_neg e]
      refine ⟨k1.of_heap (by rw [hz, hs]; omega) (fun ad m c he hlt => ?_), k2⟩
      exact (Below.heap_setCell _ _ _ _ (k2 ad m c he)).trans (hb.block _ hlt)
  · show (if j = k then _ else S j) = _
    rw [if_neg (by omega)]
    exact h3 j (by omega)
theorem cl_done {w wr : World} {fs : List (List Int)} (h : Cl w wr fs fs.length) : Pref wr wr.heap.size (some ⟨w.heap.size, 0, none⟩) fs := by
  obtain ⟨S, h1, h2, h3, h4⟩ := h
  refine .inr ⟨_, _, rfl, h1.lt, fun i hi => ⟨S i, ?_, (h2 i hi).1⟩⟩
  rw [Nat.zero_add]
  exact h1.cell hi

def ClonePost (a : Option Addr) (fs : List (List Int)) (w : World) (e : Ending) (w' : World) : Prop :=
  ∃ a' c', e = .returned (.slice a' fs.length c') ∧ Pref w' w'.heap.size a' fs ∧ a'.isNone = a.isNone ∧ Below w.heap.size w w'

set_option maxHeartbeats 2000000 in
/-- zzs3351cclone. -/
theorem clone_any (a : Option Addr) (c : Nat) (fs : List (List Int)) (w : World) (hP : Pref w w.heap.size a fs) (hnil : a = none → fs = [] ∧ c = 0) (hfl : fs.length ≤ 1024) (hff : ∀ i, i < fs.length → (fs.getD i []).length ≤ 4096) :
    Calls Yba.prog 10 #[.slice a fs.length c] w (ClonePost a fs w) := by
  have e1 := fun w => eq_nil26 w a fs.length c
  cases a with
  | none =>
    obtain ⟨rfl, rfl⟩ := hnil rfl
    clear hP hnil hfl hff e1
    have e1 := fun w => eq_nil26 w none 0 0
    show Calls Yba.prog 10 #[.slice none 0 0] w (ClonePost none [] w)
    go_enter Yba.func10, Yba.ntmps10
    go_wp2_with fail
    go_ret
    exact ⟨none, 0, rfl, .inl rfl, rfl, Below.refl _ _⟩
  | some ad =>
    have HP : Hid (Pref w w.heap.size (some ad) fs) := hP
    have HF : Hid (∀ i, i < fs.length → (fs.getD i []).length ≤ 4096) := hff
    have hmk : ∀ w : World, (Instr.makeSlice 26 (.int .i64 (fs.length : Int)) (.int .i64 (fs.length : Int))).run Yba.prog w = .ok (.slice (some ⟨w.heap.size, 0, none⟩) fs.length fs.length) (w.alloc (.cells (madeCells #[.slice none 0 0] fs.length) 39)) :=
      fun w => run_make_row' (P := Yba.prog) 26 39 (.slice none 0 0) 24 Yba.underlying26 Yba.info39 rfl .i64 .i64 fs.length (by omega) (by omega) w
    have hC : Hid (Cl w (w.alloc (.cells (madeCells #[.slice none 0 0] fs.length) 39)) fs 0) := cl_start w fs
    clear hP hnil hff
    go_enter Yba.func10, Yba.ntmps10
    go_wp2_with fail
    go_loopw [4] (fun i wr => ∃ k : Nat, k ≤ fs.length ∧ i = .int .i64 k ∧ Hid (Cl w wr fs k)) (fun i _ => fs.length - (intOf i).toNat)
    case atStart => exact ⟨0, Nat.zero_le _, rfl, hC⟩
    case round =>
      obtain ⟨k, hk, rfl, HC⟩ := hrel
      clear hC hmk
      by_cases hlt : k < fs.length
      · have hbw : Below w.heap.size w wr := by obtain ⟨_, _, _, _, h⟩ := HC.out; exact h
        have hgl : w.heap.size < wr.heap.size := by obtain ⟨_, h, _⟩ := HC.out; exact h.lt
        obtain ⟨b, o, a', c', ea, hb, d1, s1⟩ := (HP.out.below hbw).at hlt
        simp only [Option.some.injEq] at ea
        subst ea
        have k1 : (k : Int) < (fs.length : Int) := by omega
        have hm := HF.out k hlt
        have en := fun w => neq_nil39 w a' (fs.getD k []).length c'
        cases a' with
        | none =>
          have hf : fs.getD k [] = [] := by
            rcases s1 with ⟨_, h⟩ | ⟨_, _, h, _⟩
            · exact h
            · simp at h
          have HC' : Hid (Cl w wr fs (k + 1)) := cl_nil HC.out hf
          have hl0 : (fs.getD k []).length = 0 := by rw [hf]; rfl
          rw [hl0] at d1 en
          clear s1 hf hl0 hbw HC hm
          go_wp2_with fail
          go_roundw
          case rel => exact ⟨k + 1, by omega, by go_num, HC'⟩
          case measure => simp [intOf]; omega
        | some ad' =>
          obtain ⟨w1, hcp, hb1, hs1, hsrc1⟩ := copy_src wr _ _ (s1.mono (Nat.le_of_lt hgl))
          have hc1 := HC.out
          obtain ⟨S, r1, _⟩ := hc1
          have r2 := r1.of_block (hb1.block _ hgl)
          have d2 : w1.cell? ⟨w.heap.size, k, none⟩ = some (S k) := r2.cell hlt
          have f2 : w1.frozen? ⟨w.heap.size, k, none⟩ = false := r2.frozen k
          have d3 := (hb1.cell (p := ⟨b, o + k, none⟩) (by show b < wr.heap.size; omega)).trans d1
          have HC' := cl_put HC.out hb1 hs1 hsrc1 hgl
          have d4 : ∀ O, (wr.alloc O).cell? ⟨b, o + k, none⟩ = some (.slice (some ad') (fs.getD k []).length c') := fun O => (((Below.refl wr.heap.size wr).alloc (Nat.le_refl _) O).cell (p := ⟨b, o + k, none⟩) (by show b < wr.heap.size; omega)).trans d1
          generalize (fs.getD k []).length = m at d1 d3 d4 hm en hcp HC'
          have hmk2 : ∀ w : World, (Instr.makeSlice 39 (.int .i64 (m : Int)) (.int .i64 (m : Int))).run Yba.prog w = .ok (.slice (some ⟨w.heap.size, 0, none⟩) m m) (w.alloc (.cells (madeCells #[.int .u8 0] m) 5)) :=
            fun w => run_make_row' (P := Yba.prog) 39 5 (.int .u8 0) 1 Yba.underlying39 Yba.info5 rfl .i64 .i64 m (by omega) (by omega) w
          have HC2 : Hid (Cl w (w1.setCell ⟨w.heap.size, k, none⟩ (.slice (some ⟨wr.heap.size, 0, none⟩) m m)) fs (k + 1)) := HC'
          have HB1 : Hid (Below wr.heap.size wr w1) := hb1
          clear HC' s1 r1 r2 hsrc1 hbw HC hb1
          go_wp2_with fail
          go_roundw
          case rel => exact ⟨k + 1, by omega, by go_num, HC2⟩
          case measure => simp [intOf]; omega
      · have hk' : k = fs.length := by omega
        subst hk'
        have hbw : Below w.heap.size w wr := by obtain ⟨_, _, _, _, h⟩ := HC.out; exact h
        have HBW : Hid (Below w.heap.size w wr) := hbw
        clear hbw
        go_wp2_with fail
        go_ret
        exact ⟨_, _, rfl, cl_done HC.out, rfl, HBW.out⟩
end Go.Proofs.Ybulkbqjk
