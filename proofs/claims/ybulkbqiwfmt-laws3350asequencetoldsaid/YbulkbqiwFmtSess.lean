import Derived.Test.YbulkbqiwFmtBase
namespace Go.Proofs.YbulkbqiwFmt
open Go.RowKit
set_option linter.unusedVariables false
set_option linter.unusedSimpArgs false

/-- A session's cells: its own incarnation, its lock's word, what it has sent, the incarnation heard, whether any, the next number, the cursor, whether resumed, the number acknowledged. -/
def sessCells (own : List Int) (lk sent : Int) (heard : List Int) (hA : Bool) (nx cur : Int) (rs : Bool) (ak : Int) : List Value :=
  bv own ++ ([.nilFunc, .int .i32 lk, .int .u32 0, .int .u64 sent, .slice none 0 0, .int .i64 0] ++ (bv heard ++ [.bool hA, .int .u64 nx, .int .u64 cur, .bool rs, .int .u64 ak]))

/-- BLOCK b IS A SESSION (t: the struct type's number). -/
def Sess (t : TypeId) (w : World) (b : Nat) (own : List Int) (lk sent : Int) (heard : List Int) (hA : Bool) (nx cur : Int) (rs : Bool) (ak : Int) : Prop :=
  w.heap[b]? = some (.cells (sessCells own lk sent heard hA nx cur rs ak).toArray t (0, 0))

section
variable {t : TypeId} {w : World} {b : Nat} {own heard : List Int} {lk sent nx cur ak : Int} {hA rs : Bool}

theorem Sess.cell (h : Sess t w b own lk sent heard hA nx cur rs ak) (o : Nat) : w.cell? ⟨b, o, none⟩ = (sessCells own lk sent heard hA nx cur rs ak)[o]? := by
  unfold Sess at h
  simp [World.cell?, h]
theorem Sess.frozen (h : Sess t w b own lk sent heard hA nx cur rs ak) (o : Nat) : w.frozen? ⟨b, o, none⟩ = false := by
  unfold Sess at h
  simp [World.frozen?, h]
theorem Sess.lt (h : Sess t w b own lk sent heard hA nx cur rs ak) : b < w.heap.size := (Array.getElem?_eq_some_iff.1 h).1

theorem Sess.c16 (h : Sess t w b own lk sent heard hA nx cur rs ak) (hO : Inc own) : w.cell? ⟨b, 16, none⟩ = some .nilFunc := by rw [h.cell]; simp [sessCells, List.getElem?_append, bv_len hO]
theorem Sess.c17 (h : Sess t w b own lk sent heard hA nx cur rs ak) (hO : Inc own) : w.cell? ⟨b, 17, none⟩ = some (.int .i32 lk) := by rw [h.cell]; simp [sessCells, List.getElem?_append, bv_len hO]
theorem Sess.c19 (h : Sess t w b own lk sent heard hA nx cur rs ak) (hO : Inc own) : w.cell? ⟨b, 19, none⟩ = some (.int .u64 sent) := by rw [h.cell]; simp [sessCells, List.getElem?_append, bv_len hO]
theorem Sess.c20 (h : Sess t w b own lk sent heard hA nx cur rs ak) (hO : Inc own) : w.cell? ⟨b, 20, none⟩ = some (.slice none 0 0) := by rw [h.cell]; simp [sessCells, List.getElem?_append, bv_len hO]
theorem Sess.c21 (h : Sess t w b own lk sent heard hA nx cur rs ak) (hO : Inc own) : w.cell? ⟨b, 21, none⟩ = some (.int .i64 0) := by rw [h.cell]; simp [sessCells, List.getElem?_append, bv_len hO]
theorem Sess.c38 (h : Sess t w b own lk sent heard hA nx cur rs ak) (hO : Inc own) (hH : Inc heard) : w.cell? ⟨b, 38, none⟩ = some (.bool hA) := by rw [h.cell]; simp [sessCells, List.getElem?_append, bv_len hO, bv_len hH]
theorem Sess.c39 (h : Sess t w b own lk sent heard hA nx cur rs ak) (hO : Inc own) (hH : Inc heard) : w.cell? ⟨b, 39, none⟩ = some (.int .u64 nx) := by rw [h.cell]; simp [sessCells, List.getElem?_append, bv_len hO, bv_len hH]
theorem Sess.c40 (h : Sess t w b own lk sent heard hA nx cur rs ak) (hO : Inc own) (hH : Inc heard) : w.cell? ⟨b, 40, none⟩ = some (.int .u64 cur) := by rw [h.cell]; simp [sessCells, List.getElem?_append, bv_len hO, bv_len hH]
theorem Sess.c41 (h : Sess t w b own lk sent heard hA nx cur rs ak) (hO : Inc own) (hH : Inc heard) : w.cell? ⟨b, 41, none⟩ = some (.bool rs) := by rw [h.cell]; simp [sessCells, List.getElem?_append, bv_len hO, bv_len hH]
theorem Sess.c42 (h : Sess t w b own lk sent heard hA nx cur rs ak) (hO : Inc own) (hH : Inc heard) : w.cell? ⟨b, 42, none⟩ = some (.int .u64 ak) := by rw [h.cell]; simp [sessCells, List.getElem?_append, bv_len hO, bv_len hH]
theorem Sess.ownAt (h : Sess t w b own lk sent heard hA nx cur rs ak) : w.rangeAt b 0 (bv own) := by
  intro j v hv
  have hj := (List.getElem?_eq_some_iff.1 hv).1
  rw [h.cell, Nat.zero_add]
  unfold sessCells
  rw [List.getElem?_append_left hj]
  exact hv
theorem Sess.heardAt (h : Sess t w b own lk sent heard hA nx cur rs ak) (hO : Inc own) : w.rangeAt b 22 (bv heard) := by
  intro j v hv
  have hj := (List.getElem?_eq_some_iff.1 hv).1
  rw [h.cell]
  unfold sessCells
  rw [List.getElem?_append_right (by rw [bv_len hO]; omega), bv_len hO, List.getElem?_append_right (by simp; omega), List.getElem?_append_left (by simp; omega)]
  simp only [List.length_cons, List.length_nil]
  rw [show 22 + j - 16 - (0 + 1 + 1 + 1 + 1 + 1 + 1) = j by omega]
  exact hv
theorem Sess.there (h : Sess t w b own lk sent heard hA nx cur rs ak) (hO : Inc own) (hH : Inc heard) : w.there b 22 16 := fun j hj =>
  ⟨(h.heardAt hO).isSome j (by rw [bv_len hH]; exact hj), h.frozen _⟩
end

/-- w' is w with new blocks, and with writes to block b alone. -/
structure Turned (b : Nat) (w w' : World) : Prop where
  os : w'.os = w.os
  tape : w'.tape = w.tape
  output : w'.output = w.output
  size : w.heap.size ≤ w'.heap.size
  block : ∀ k, k < w.heap.size → k ≠ b → w'.heap[k]? = w.heap[k]?

theorem Turned.refl (b : Nat) (w : World) : Turned b w w := ⟨rfl, rfl, rfl, Nat.le_refl _, fun _ _ _ => rfl⟩
theorem Turned.trans {b : Nat} {w w' w'' : World} (h : Turned b w w') (k : Turned b w' w'') : Turned b w w'' :=
  ⟨k.os.trans h.os, k.tape.trans h.tape, k.output.trans h.output, Nat.le_trans h.size k.size, fun i hi hb => (k.block i (Nat.lt_of_lt_of_le hi h.size) hb).trans (h.block i hi hb)⟩
theorem Turned.alloc {b : Nat} {w w' : World} (h : Turned b w w') (o : Obj) : Turned b w (w'.alloc o) :=
  h.trans ⟨rfl, rfl, rfl, by simp, fun k hk _ => Below.heap_alloc _ _ _ hk⟩
theorem Turned.setCell {b : Nat} {w w' : World} (h : Turned b w w') (o : Nat) (v : Value) : Turned b w (w'.setCell ⟨b, o, none⟩ v) :=
  h.trans ⟨rfl, rfl, rfl, by simp, fun k _ hb => Below.heap_setCell _ _ _ _ hb⟩
theorem Turned.setCells {b : Nat} : ∀ {w w' : World} (vs : List Value) (o : Nat), Turned b w w' → Turned b w (w'.setCells b o vs)
  | _, _, [], _, h => h
  | _, _, v :: r, o, h => Turned.setCells r (o + 1) (h.setCell o v)
theorem Turned.drewN {b : Nat} {w w' : World} (h : Turned b w w') (n : Nat) : Turned b w (w'.drewN n) := ⟨h.os, h.tape, h.output, h.size, h.block⟩
theorem Turned.drew {b : Nat} {w w' : World} (h : Turned b w w') : Turned b w w'.drew := ⟨h.os, h.tape, h.output, h.size, h.block⟩
theorem Turned.below {b B : Nat} {w w' : World} (h : Turned b w w') (hB : B ≤ b) (hw : B ≤ w.heap.size) : Below B w w' :=
  ⟨h.os, h.tape, h.output, h.size, fun k hk => h.block k (by omega) (by omega)⟩

/-! ### What stores make of the session's block -/
theorem block_setCell {w : World} {b : Nat} {c : Array Value} {t : TypeId} {fr : Nat × Nat} (h : w.heap[b]? = some (.cells c t fr)) (o : Nat) (v : Value) : (w.setCell ⟨b, o, none⟩ v).heap[b]? = some (.cells (c.setIfInBounds o v) t fr) := by
  simp [World.setCell, Array.getElem?_modify, h]
/-- The cells vs laid over c from o on. -/
def setMany (c : Array Value) (o : Nat) : List Value → Array Value
  | [] => c
  | v :: r => setMany (c.setIfInBounds o v) (o + 1) r
theorem block_setCells {b : Nat} {t : TypeId} {fr : Nat × Nat} : ∀ {w : World} {c : Array Value} (vs : List Value) (o : Nat), w.heap[b]? = some (.cells c t fr) → (w.setCells b o vs).heap[b]? = some (.cells (setMany c o vs) t fr)
  | _, _, [], _, h => h
  | _, _, v :: r, o, h => block_setCells r (o + 1) (block_setCell h o v)

theorem sixteen {l : List Int} (h : Inc l) : ∃ a0 a1 a2 a3 a4 a5 a6 a7 a8 a9 a10 a11 a12 a13 a14 a15, l = [a0, a1, a2, a3, a4, a5, a6, a7, a8, a9, a10, a11, a12, a13, a14, a15] := by
  match l, h.len with
  | [a0, a1, a2, a3, a4, a5, a6, a7, a8, a9, a10, a11, a12, a13, a14, a15], _ => exact ⟨a0, a1, a2, a3, a4, a5, a6, a7, a8, a9, a10, a11, a12, a13, a14, a15, rfl⟩
theorem set_lock (own : List Int) (lk lk' sent : Int) (heard : List Int) (hA : Bool) (nx cur : Int) (rs : Bool) (ak : Int) (hO : Inc own) :
    (sessCells own lk sent heard hA nx cur rs ak).toArray.setIfInBounds 17 (.int .i32 lk') = (sessCells own lk' sent heard hA nx cur rs ak).toArray := by
  obtain ⟨a0, a1, a2, a3, a4, a5, a6, a7, a8, a9, a10, a11, a12, a13, a14, a15, rfl⟩ := sixteen hO
  kernel_rfl
theorem set_next (own : List Int) (lk sent : Int) (heard : List Int) (hA : Bool) (nx nx' cur : Int) (rs : Bool) (ak : Int) (hO : Inc own) (hH : Inc heard) :
    (sessCells own lk sent heard hA nx cur rs ak).toArray.setIfInBounds 39 (.int .u64 nx') = (sessCells own lk sent heard hA nx' cur rs ak).toArray := by
  obtain ⟨a0, a1, a2, a3, a4, a5, a6, a7, a8, a9, a10, a11, a12, a13, a14, a15, rfl⟩ := sixteen hO
  obtain ⟨b0, b1, b2, b3, b4, b5, b6, b7, b8, b9, b10, b11, b12, b13, b14, b15, rfl⟩ := sixteen hH
  kernel_rfl
theorem set_any (own : List Int) (lk sent : Int) (heard : List Int) (hA hA' : Bool) (nx cur : Int) (rs : Bool) (ak : Int) (hO : Inc own) (hH : Inc heard) :
    (sessCells own lk sent heard hA nx cur rs ak).toArray.setIfInBounds 38 (.bool hA') = (sessCells own lk sent heard hA' nx cur rs ak).toArray := by
  obtain ⟨a0, a1, a2, a3, a4, a5, a6, a7, a8, a9, a10, a11, a12, a13, a14, a15, rfl⟩ := sixteen hO
  obtain ⟨b0, b1, b2, b3, b4, b5, b6, b7, b8, b9, b10, b11, b12, b13, b14, b15, rfl⟩ := sixteen hH
  kernel_rfl
theorem set_resumed (own : List Int) (lk sent : Int) (heard : List Int) (hA : Bool) (nx cur : Int) (rs rs' : Bool) (ak : Int) (hO : Inc own) (hH : Inc heard) :
    (sessCells own lk sent heard hA nx cur rs ak).toArray.setIfInBounds 41 (.bool rs') = (sessCells own lk sent heard hA nx cur rs' ak).toArray := by
  obtain ⟨a0, a1, a2, a3, a4, a5, a6, a7, a8, a9, a10, a11, a12, a13, a14, a15, rfl⟩ := sixteen hO
  obtain ⟨b0, b1, b2, b3, b4, b5, b6, b7, b8, b9, b10, b11, b12, b13, b14, b15, rfl⟩ := sixteen hH
  kernel_rfl
theorem set_acked (own : List Int) (lk sent : Int) (heard : List Int) (hA : Bool) (nx cur : Int) (rs : Bool) (ak ak' : Int) (hO : Inc own) (hH : Inc heard) :
    (sessCells own lk sent heard hA nx cur rs ak).toArray.setIfInBounds 42 (.int .u64 ak') = (sessCells own lk sent heard hA nx cur rs ak').toArray := by
  obtain ⟨a0, a1, a2, a3, a4, a5, a6, a7, a8, a9, a10, a11, a12, a13, a14, a15, rfl⟩ := sixteen hO
  obtain ⟨b0, b1, b2, b3, b4, b5, b6, b7, b8, b9, b10, b11, b12, b13, b14, b15, rfl⟩ := sixteen hH
  kernel_rfl
theorem set_heard (own : List Int) (lk sent : Int) (heard inc : List Int) (hA : Bool) (nx cur : Int) (rs : Bool) (ak : Int) (hO : Inc own) (hH : Inc heard) (hI : Inc inc) :
    setMany (sessCells own lk sent heard hA nx cur rs ak).toArray 22 (bv inc) = (sessCells own lk sent inc hA nx cur rs ak).toArray := by
  obtain ⟨a0, a1, a2, a3, a4, a5, a6, a7, a8, a9, a10, a11, a12, a13, a14, a15, rfl⟩ := sixteen hO
  obtain ⟨b0, b1, b2, b3, b4, b5, b6, b7, b8, b9, b10, b11, b12, b13, b14, b15, rfl⟩ := sixteen hH
  obtain ⟨d0, d1, d2, d3, d4, d5, d6, d7, d8, d9, d10, d11, d12, d13, d14, d15, rfl⟩ := sixteen hI
  kernel_rfl

section
variable {t : TypeId} {w : World} {b : Nat} {own heard inc : List Int} {lk sent nx cur ak : Int} {hA rs : Bool}
theorem Sess.setLock (h : Sess t w b own lk sent heard hA nx cur rs ak) (hO : Inc own) (lk' : Int) : Sess t (w.setCell ⟨b, 17, none⟩ (.int .i32 lk')) b own lk' sent heard hA nx cur rs ak := by
  have := block_setCell h 17 (.int .i32 lk')
  rwa [set_lock _ _ _ _ _ _ _ _ _ _ hO] at this
theorem Sess.setNext (h : Sess t w b own lk sent heard hA nx cur rs ak) (hO : Inc own) (hH : Inc heard) (nx' : Int) : Sess t (w.setCell ⟨b, 39, none⟩ (.int .u64 nx')) b own lk sent heard hA nx' cur rs ak := by
  have := block_setCell h 39 (.int .u64 nx')
  rwa [set_next _ _ _ _ _ _ _ _ _ _ hO hH] at this
theorem Sess.setAny (h : Sess t w b own lk sent heard hA nx cur rs ak) (hO : Inc own) (hH : Inc heard) (hA' : Bool) : Sess t (w.setCell ⟨b, 38, none⟩ (.bool hA')) b own lk sent heard hA' nx cur rs ak := by
  have := block_setCell h 38 (.bool hA')
  rwa [set_any _ _ _ _ _ _ _ _ _ _ hO hH] at this
theorem Sess.setResumed (h : Sess t w b own lk sent heard hA nx cur rs ak) (hO : Inc own) (hH : Inc heard) (rs' : Bool) : Sess t (w.setCell ⟨b, 41, none⟩ (.bool rs')) b own lk sent heard hA nx cur rs' ak := by
  have := block_setCell h 41 (.bool rs')
  rwa [set_resumed _ _ _ _ _ _ _ _ _ _ hO hH] at this
theorem Sess.setAcked (h : Sess t w b own lk sent heard hA nx cur rs ak) (hO : Inc own) (hH : Inc heard) (ak' : Int) : Sess t (w.setCell ⟨b, 42, none⟩ (.int .u64 ak')) b own lk sent heard hA nx cur rs ak' := by
  have := block_setCell h 42 (.int .u64 ak')
  rwa [set_acked _ _ _ _ _ _ _ _ _ _ hO hH] at this
theorem Sess.setHeard (h : Sess t w b own lk sent heard hA nx cur rs ak) (hO : Inc own) (hH : Inc heard) (hI : Inc inc) : Sess t (w.setCells b 22 (bv inc)) b own lk sent inc hA nx cur rs ak := by
  have := block_setCells (bv inc) 22 h
  rwa [set_heard _ _ _ _ _ _ _ _ _ _ hO hH hI] at this
theorem Sess.alloc (h : Sess t w b own lk sent heard hA nx cur rs ak) (o : Obj) : Sess t (w.alloc o) b own lk sent heard hA nx cur rs ak := by
  have hl := h.lt
  unfold Sess at h ⊢
  rw [Below.heap_alloc _ _ _ hl]; exact h
theorem Sess.drew (h : Sess t w b own lk sent heard hA nx cur rs ak) : Sess t w.drew b own lk sent heard hA nx cur rs ak := h
theorem Sess.drewN (h : Sess t w b own lk sent heard hA nx cur rs ak) (n : Nat) : Sess t (w.drewN n) b own lk sent heard hA nx cur rs ak := h
end
end Go.Proofs.YbulkbqiwFmt
