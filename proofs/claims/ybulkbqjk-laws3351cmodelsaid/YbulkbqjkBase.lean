import Derived.Test.YbulkbqjkRows
import Derived.WalkKit
import Derived.WalkSpells
import Derived.WalkLawsBesides
import Derived.Below
import Derived.Lib.BufSteps
import Derived.Lib.ConvBytes
import Derived.Laws.BytesArg
import Derived.Deep.OwnRows
import Derived.Outline
namespace Go.Proofs.Ybulkbqjk
open Go.RowKit
set_option linter.unusedVariables false

theorem Yba.info5 : (Yba.prog.info? 5).map (fun i => (i.zero, i.size, i.bytes)) = some (some (.int .u8 0), 1, 1) := by kernel_rfl

/-- Bytes as cells. -/
def bv (l : List Int) : List Value := l.map (Value.int .u8)
theorem bv_len (l : List Int) : (bv l).length = l.length := by simp [bv]
theorem bv_app (l m : List Int) : bv (l ++ m) = bv l ++ bv m := by simp [bv]
theorem bv_one (l : List Int) : ∀ v ∈ bv l, v.oneCell' = true := by
  intro v hv
  obtain ⟨a, _, rfl⟩ := List.mem_map.1 hv
  rfl
theorem bv_get {l : List Int} {j : Nat} {u : Value} (h : (bv l)[j]? = some u) : j < l.length ∧ u = .int .u8 (l.getD j 0) := by
  have hj : j < l.length := by have := (List.getElem?_eq_some_iff.1 h).1; simpa [bv] using this
  refine ⟨hj, ?_⟩
  simp [bv, hj] at h
  simp [hj, ← h]

/-- A string's bytes. -/
def strL (s : ByteArray) : List Int := s.data.toList.map fun b => (b.toNat : Int)
theorem strL_len (s : ByteArray) : (strL s).length = s.size := by unfold strL; rw [List.length_map]; exact Array.length_toList
theorem strCells_eq (s : ByteArray) : Lib.strCells s = bv (strL s) := by simp [Lib.strCells, bv, strL]

/-- A BUFFER OF BYTES THAT THE CALL OWNS: the slice v holds l, in a block from B on; of what lay below B in W0 nothing has turned. -/
def Buf (B : Nat) (W0 : World) (v : Value) (l : List Int) (w : World) : Prop := Lib.OwnBuf B 5 v l.length (bv l) W0 w

theorem Buf.nil (W0 : World) {B : Nat} (hB : B ≤ W0.heap.size) : Buf B W0 (.slice none 0 0) [] W0 := ⟨World.ownsRowF_nil _ _ _ _, Below.refl _ _, hB⟩
theorem Buf.below {B : Nat} {W0 w : World} {v : Value} {l : List Int} (h : Buf B W0 v l w) : Below B W0 w := h.2.1
theorem Buf.size {B : Nat} {W0 w : World} {v : Value} {l : List Int} (h : Buf B W0 v l w) : B ≤ w.heap.size := h.2.2
theorem Buf.alloc {B : Nat} {W0 w : World} {v : Value} {l : List Int} (h : Buf B W0 v l w) (o : Obj) : Buf B W0 v l (w.alloc o) := Lib.OwnBuf.alloc h o
theorem Buf.drewN {B : Nat} {W0 w : World} {v : Value} {l : List Int} (h : Buf B W0 v l w) (n : Nat) : Buf B W0 v l (w.drewN n) := Lib.OwnBuf.drewN h n

/-- A SLICE OF BYTES THAT LIES BELOW B: it holds f. -/
def Src (w : World) (B : Nat) (v : Value) (f : List Int) : Prop :=
  (v = .slice none 0 0 ∧ f = []) ∨ ∃ ad c, v = .slice (some ad) f.length c ∧ ∀ j, j < f.length → ad.block < B ∧ w.cell? (ad.add j) = some (.int .u8 (f.getD j 0))

theorem add_block (a : Addr) (j : Nat) : (a.add j).block = a.block := by unfold Addr.add; split <;> rfl
theorem Src.below {w w' : World} {B : Nat} {v : Value} {f : List Int} (h : Src w B v f) (hb : Below B w w') : Src w' B v f := by
  rcases h with h | ⟨ad, c, e, hc⟩
  · exact .inl h
  · exact .inr ⟨ad, c, e, fun j hj => ⟨(hc j hj).1, (hb.cell (by rw [add_block]; exact (hc j hj).1)).trans (hc j hj).2⟩⟩
theorem Src.mono {w : World} {B B' : Nat} {v : Value} {f : List Int} (h : Src w B v f) (hB : B ≤ B') : Src w B' v f := by
  rcases h with h | ⟨ad, c, e, hc⟩
  · exact .inl h
  · exact .inr ⟨ad, c, e, fun j hj => ⟨Nat.lt_of_lt_of_le (hc j hj).1 hB, (hc j hj).2⟩⟩
theorem Src.slice {w : World} {B : Nat} {v : Value} {f : List Int} (h : Src w B v f) : ∃ a c, v = .slice a f.length c := by
  rcases h with ⟨rfl, rfl⟩ | ⟨ad, c, e, hc⟩
  · exact ⟨none, 0, rfl⟩
  · exact ⟨_, _, e⟩
/-- Below B nothing has turned from one state of the buffer to another. -/
theorem Buf.same {B : Nat} {W0 w w' : World} {v v' : Value} {l l' : List Int} (h : Buf B W0 v l w) (h' : Buf B W0 v' l' w') (k : Nat) (hk : k < B) : w'.heap[k]? = w.heap[k]? := (h'.2.1.block k hk).trans (h.2.1.block k hk).symm
theorem Src.step {B B' : Nat} {W0 w w' : World} {v v' sv : Value} {l l' f : List Int} (hs : Src w B' sv f) (hB : B' ≤ B) (h : Buf B W0 v l w) (h' : Buf B W0 v' l' w') : Src w' B' sv f := by
  rcases hs with hs | ⟨ad, c, e, hc⟩
  · exact .inl hs
  · refine .inr ⟨ad, c, e, fun j hj => ⟨(hc j hj).1, ?_⟩⟩
    rw [← (hc j hj).2]
    exact World.cell?_of_block (h.same h' _ (by rw [add_block]; exact Nat.lt_of_lt_of_le (hc j hj).1 hB))
/-- What a buffer holds, read by others. -/
theorem Buf.src {B : Nat} {W0 w : World} {v : Value} {l : List Int} (h : Buf B W0 v l w) : Src w w.heap.size v l := by
  obtain ⟨h1, _, _⟩ := h
  rcases h1.2 with ⟨rfl, hn⟩ | ⟨g, cap, cur, fz, rfl, _, hg, _⟩
  · exact .inl ⟨rfl, List.eq_nil_of_length_eq_zero hn⟩
  · refine .inr ⟨_, _, rfl, fun j hj => ⟨(Array.getElem?_eq_some_iff.1 hg).1, ?_⟩⟩
    exact h1.cells (g := g) rfl j _ (by simp [bv, hj])
theorem Buf.slice {B : Nat} {W0 w : World} {v : Value} {l : List Int} (h : Buf B W0 v l w) : ∃ a c, v = .slice a l.length c := h.src.slice

section
variable {w : World} {ops : Array Oper} {rest : List Oper} {o : Oper} {a : Act} {Q : Exit → Act → World → Prop}

/-- 'b = append(b, x)'. -/
theorem append_byte (hgd : o.guard = none) (s x : Operand) (ho : o.op = .call { callee := .builtin .append, args := #[s, x], argTypes := #[39, 39] })
    (B : Nat) (W0 : World) (v : Value) (l : List Int) (hs : a.eval s = v) (c : Int) (hb : Buf B W0 v l w) (hx : a.eval x = .slice (some ⟨w.heap.size, 0, none⟩) 1 1) (hlen : l.length + 1 ≤ 140737488355328)
    (h : ∀ v' w', Buf B W0 v' (l ++ [c]) w' → wpList Yba.prog ops Q rest (a.put o.dst v') w') : wpList Yba.prog ops Q (o :: rest) a (w.alloc (.cells #[.int .u8 c] 5)) := by
  obtain ⟨i0, hi, hz0, hz1, hz2⟩ := info_parts Yba.info5
  refine Lib.wpList_append_byte hgd s x 39 ho B 5 i0 Yba.underlying39 hi hz0 hz1 hz2 v l.length (bv l) hs W0 w c hb hx hlen fun v' w' h' => h v' w' ?_
  show Lib.OwnBuf B 5 v' (l ++ [c]).length (bv (l ++ [c])) W0 w'
  rw [bv_app, List.length_append]
  exact h'

/-- 'b = append(b, s...)', s a string. -/
theorem append_str (hgd : o.guard = none) (s x : Operand) (ho : o.op = .call { callee := .builtin .append, args := #[s, x], argTypes := #[39, 9] })
    (B : Nat) (W0 : World) (v : Value) (l : List Int) (hs : a.eval s = v) (st : ByteArray) (hb : Buf B W0 v l w) (hx : a.eval x = .string st) (hlen : l.length + st.size ≤ 140737488355328)
    (h : ∀ v' w', Buf B W0 v' (l ++ strL st) w' → wpList Yba.prog ops Q rest (a.put o.dst v') w') : wpList Yba.prog ops Q (o :: rest) a w := by
  obtain ⟨i0, hi, hz0, hz1, hz2⟩ := info_parts Yba.info5
  refine Lib.wpList_append_text hgd s x 39 9 ho B 5 i0 Yba.underlying39 Yba.underlying9 hi hz0 hz1 hz2 v l.length (bv l) hs W0 hb st hx hlen fun v' w' h' => h v' w' ?_
  show Lib.OwnBuf B 5 v' (l ++ strL st).length (bv (l ++ strL st)) W0 w'
  rw [bv_app, List.length_append, strL_len, ← strCells_eq]
  exact h'

/-- 'b = append(b, f...)', f a slice of bytes. -/
theorem append_src (hgd : o.guard = none) (s x : Operand) (ho : o.op = .call { callee := .builtin .append, args := #[s, x], argTypes := #[39, 39] })
    (B : Nat) (W0 : World) (v : Value) (l : List Int) (hs : a.eval s = v) (hb : Buf B W0 v l w) (sv : Value) (hx : a.eval x = sv) (B' : Nat) (f : List Int) (hf : Src w B' sv f) (hlen : l.length + f.length ≤ 140737488355328)
    (h : ∀ v' w', Buf B W0 v' (l ++ f) w' → wpList Yba.prog ops Q rest (a.put o.dst v') w') : wpList Yba.prog ops Q (o :: rest) a w := by
  obtain ⟨i0, hi, hz0, hz1, hz2⟩ := info_parts Yba.info5
  rcases hf with ⟨rfl, rfl⟩ | ⟨ad, c, rfl, hc⟩
  · refine wpList_plain hgd fun K hK => ?_
    have hrun : (Builtin.append_ #[39, 39] o.type #[v, .slice none 0 0]).run Yba.prog w = .ok v w := by
      rcases hb.1.2 with ⟨rfl, _⟩ | ⟨g, cap, cur, fz, rfl, _, _, _, hnc, _⟩
      · simp [Builtin.append_, run_underlying Yba.underlying39, sizeOf, typeInfo, hi, Builtin.lenOf, Builtin.firstCells]
      · simp [Builtin.append_, run_underlying Yba.underlying39, sizeOf, typeInfo, hi, Builtin.lenOf, Builtin.firstCells, hnc, storeCells]
    unfold Oper.wp
    simp [execOp, ho, resolve, invoke, builtin, hs, hx, hrun, Result.andThen]
    exact hK _ _ (h v w (by simpa using hb))
  · refine wpList_append_ownF w hgd s x 39 ho B 5 i0 (.int .u8 0) 1 1 Yba.underlying39 hi hz0 hz1 hz2 rfl (by decide) v l.length (bv l) hs hb.1 ad f.length c (bv f) hx (by simp [bv]) ?_ (bv_one f) (by unfold maxLen; omega) (by omega) hb.2.2 ?_
    · intro j u hj
      obtain ⟨h1, rfl⟩ := bv_get hj
      exact (hc j h1).2
    · intro v' w' ho' hg _
      refine h v' w' ?_
      have := Lib.OwnBuf.grown hb ho' hg
      show Lib.OwnBuf B 5 v' (l ++ f).length (bv (l ++ f)) W0 w'
      rw [bv_app, List.length_append]
      exact this
end

/-- 'string(b)' of such a slice. -/
theorem convert_src {w : World} {B : Nat} {v : Value} {f : List Int} (h : Src w B v f) : (convert 39 9 v).run Yba.prog w = .ok (.string (strOfNums f)) w := by
  rcases h with ⟨rfl, rfl⟩ | ⟨ad, c, rfl, hc⟩
  · exact run_convert_bytes_nil w 39 5 Yba.underlying39 Yba.underlying5 0 0 9 Yba.underlying9
  · by_cases h0 : f = []
    · subst h0
      show (convert 39 9 (.slice (some ad) 0 c)).run Yba.prog w = _
      rw [run_convert_bytes_string w 39 9 5 _ 0 c Yba.underlying39 Yba.underlying5 Yba.underlying9]
      simp [Conv.bytesToString, loadCells]
      rfl
    · have hpos : 0 < f.length := by rcases f with _ | ⟨x, r⟩ <;> simp_all
      obtain ⟨b, off, spot⟩ := ad
      have hspot : spot = none := by simpa [Addr.add] using World.cell?_spot (hc 0 hpos).2
      subst hspot
      refine run_convert_bytes_arg w 39 5 Yba.underlying39 Yba.underlying5 b off f.length c f rfl (fun i hi => ?_) 9 Yba.underlying9
      have := (hc i hi).2
      have e : (⟨b, off, none⟩ : Addr).add i = ⟨b, off + i, none⟩ := by unfold Addr.add; split <;> simp_all
      rwa [e] at this

/-- bytes.Equal of two slices that hold the same. -/
theorem equal_same (v1 v2 : Value) (f : List Int) (w : World) (B1 B2 : Nat) (h1 : Src w B1 v1 f) (h2 : Src w B2 v2 f) :
    Calls Yba.prog 13 #[v1, v2] w fun e w' => e = .returned (.bool true) ∧ w' = w := by
  have k1 := convert_src h1
  have k2 := convert_src h2
  obtain ⟨a1, c1, rfl⟩ := h1.slice
  obtain ⟨a2, c2, rfl⟩ := h2.slice
  clear h1 h2
  obtain ⟨s, hs⟩ : ∃ s, s = strOfNums f := ⟨_, rfl⟩
  rw [← hs] at k1 k2
  clear hs
  go_enter Yba.func13, Yba.ntmps13
  go_wp2
  go_ret
  exact ⟨by simp, rfl⟩
end Go.Proofs.Ybulkbqjk
