import Derived.Test.YbulkbqjkClone
import Derived.StillTailTactics
import Derived.Deep.RegionHeld3
namespace Go.Proofs.Ybulkbqjk
open Go.RowKit
set_option linter.unusedVariables false

theorem Yba.mixed : Yba.prog.follows .mixedOrders = true := by kernel_rfl
theorem forget {P : Program} {f : Nat} {args : Array Value} {Q : Ending → World → Prop} {W : World} (R : World → Prop) (h : R W) (k : ∀ W, R W → Calls P f args W Q) : Calls P f args W Q := k W h
theorem forgetW {P : Program} {c : Code} {Q : Exit → Act → World → Prop} {a : Act} {W : World} (R : World → Prop) (h : R W) (k : ∀ W, R W → c.wp P Q a W) : c.wp P Q a W := k W h

/-- 'append(b, f...)' in a region that draws its order. -/
theorem step_append_src {ops : Array Oper} {o : Oper} {a : Act} {w : World} {K : Act → World → Prop} {Q : Exit → Act → World → Prop} {E : Prop} (hgd : o.guard = none) (s x : Operand) (ho : o.op = .call { callee := .builtin .append, args := #[s, x], argTypes := #[39, 39] })
    (B : Nat) (W0 : World) (v : Value) (l : List Int) (hs : a.eval s = v) (hb : Buf B W0 v l w) (sv : Value) (hx : a.eval x = sv) (B' : Nat) (f : List Int) (hf : Src w B' sv f) (hlen : l.length + f.length ≤ 140737488355328)
    (h : ∀ v' w', Buf B W0 v' (l ++ f) w' → K (a.put o.dst v') w') : if Region.wanted o (yielded ops a.tmps) = true then Oper.wp Yba.prog o a w K Q else E := by
  have hw : Region.wanted o (yielded ops a.tmps) = true := by simp [Region.wanted, hgd]
  rw [if_pos hw]
  obtain ⟨i0, hi, hz0, hz1, hz2⟩ := info_parts Yba.info5
  rcases hf with ⟨rfl, rfl⟩ | ⟨ad, c, rfl, hc⟩
  · have hrun : (Builtin.append_ #[39, 39] o.type #[v, .slice none 0 0]).run Yba.prog w = .ok v w := by
      rcases hb.1.2 with ⟨rfl, _⟩ | ⟨g, cap, cur, fz, rfl, _, _, _, hnc, _⟩
      · simp [Builtin.append_, run_underlying Yba.underlying39, sizeOf, typeInfo, hi, Builtin.lenOf, Builtin.firstCells]
      · simp [Builtin.append_, run_underlying Yba.underlying39, sizeOf, typeInfo, hi, Builtin.lenOf, Builtin.firstCells, hnc, storeCells]
    unfold Oper.wp
    simp [execOp, ho, resolve, invoke, builtin, hs, hx, hrun, Result.andThen]
    exact h v w (by simpa using hb)
  · obtain ⟨v', w', hr, h2, h3, _⟩ := run_append_ownF (P := Yba.prog) w B 39 o.type 5 i0 (.int .u8 0) 1 1 Yba.underlying39 hi hz0 hz1 hz2 rfl (by decide) v l.length (bv l) hb.1 ad f.length c (bv f) (by simp [bv])
      (fun j u hj => by obtain ⟨h1, rfl⟩ := bv_get hj; exact (hc j h1).2) (bv_one f) (by unfold maxLen; omega) (by omega) hb.2.2
    unfold Oper.wp execOp
    simp only [ho, resolve, invoke, builtin, Sem.run_bind, Sem.run_pure, Result.andThen_ok, List.map_toArray, List.map_cons, List.map_nil, hs, hx, hr]
    refine h v' w' ?_
    have := Lib.OwnBuf.grown hb h2 h3
    show Lib.OwnBuf B 5 v' (l ++ f).length (bv (l ++ f)) W0 w'
    rw [bv_app, List.length_append]
    exact this

theorem Buf.drew {B : Nat} {W0 w : World} {v : Value} {l : List Int} (h : Buf B W0 v l w) : Buf B W0 v l w.drew := h.drewN 1
theorem Buf.cell {B : Nat} {W0 w : World} {v : Value} {l : List Int} (h : Buf B W0 v l w) {p : Addr} (hp : p.block < B) : w.cell? p = W0.cell? p := h.2.1.cell hp

/-- The keys of a prefix, each behind its length. -/
def flat (fs : List (List Int)) (k : Nat) : List Int := (fs.take k).flatMap fun f => uvB f.length ++ f
theorem flat_succ (fs : List (List Int)) (k : Nat) (hk : k < fs.length) : flat fs (k + 1) = flat fs k ++ (uvB (fs.getD k []).length ++ fs.getD k []) := by
  unfold flat
  rw [List.take_succ_eq_append_getElem hk, List.flatMap_append]
  simp only [List.flatMap_cons, List.flatMap_nil, List.append_nil, List.getD_eq_getElem?_getD, List.getElem?_eq_getElem hk, Option.getD_some]
theorem flat_len (fs : List (List Int)) (hff : ∀ i, i < fs.length → (fs.getD i []).length ≤ 4096) : ∀ k, k ≤ fs.length → (flat fs k).length ≤ k * 4106
  | 0, _ => by simp [flat]
  | k + 1, hk => by
    have h1 := flat_len fs hff k (by omega)
    have h2 := hff k (by omega)
    have h3 := uvB_len (fs.getD k []).length
    rw [flat_succ fs k (by omega)]
    simp only [List.length_append]
    omega

/-- The record's head: the type's name behind its length, the sequence. -/
def headL (typ : ByteArray) (seq : Int) : List Int := (uvB (strL typ).length ++ strL typ) ++ be8 seq
theorem headL_len (typ : ByteArray) (seq : Int) (h : typ.size ≤ 4096) : (headL typ seq).length ≤ 4114 := by
  have h1 := uvB_len (strL typ).length
  have h2 := strL_len typ
  simp [headL, be8]
  omega
/-- The whole record. -/
def recL (typ : ByteArray) (seq : Int) (cid : ByteArray) (fs : List (List Int)) : List Int := if fs.length = 1 then ((headL typ seq ++ strL cid) ++ [47]) ++ fs.getD 0 [] else ((headL typ seq ++ strL cid) ++ [58]) ++ flat fs fs.length

/-- A client in block cb, its counterparty's pointer p. -/
def Client (w : World) (cb : Nat) (typ : ByteArray) (p : Value) (seq : Int) : Prop := cb < w.heap.size ∧ w.cell? ⟨cb, 0, none⟩ = some (.string ⟨#[120]⟩) ∧ w.cell? ⟨cb, 1, none⟩ = some (.string typ) ∧ w.cell? ⟨cb, 3, none⟩ = some p ∧ w.cell? ⟨cb, 4, none⟩ = some (.int .u64 seq)
theorem Client.below {w w' : World} {cb : Nat} {typ : ByteArray} {p : Value} {seq : Int} (h : Client w cb typ p seq) {B : Nat} (hb : Below B w w') (hB : cb < B) : Client w' cb typ p seq :=
  ⟨Nat.lt_of_lt_of_le h.1 hb.size, (hb.cell hB).trans h.2.1, (hb.cell hB).trans h.2.2.1, (hb.cell hB).trans h.2.2.2.1, (hb.cell hB).trans h.2.2.2.2⟩

theorem below_bytes (w : World) (s : ByteArray) : Below w.heap.size w (Lib.bytesWorld w 5 s) := ⟨rfl, rfl, rfl, by rw [Lib.bytesWorld_size]; omega, fun k hk => Lib.bytesWorld_at_old w 5 s k hk⟩
theorem src_bytes (w : World) (s : ByteArray) (c : Nat) : Src (Lib.bytesWorld w 5 s) (Lib.bytesWorld w 5 s).heap.size (.slice (some ⟨w.heap.size, 0, none⟩) s.size c) (strL s) := by
  refine .inr ⟨_, c, by rw [strL_len], fun j hj => ⟨by rw [Lib.bytesWorld_size]; show w.heap.size < _; omega, ?_⟩⟩
  rw [strL_len] at hj
  have ea : (⟨w.heap.size, 0, none⟩ : Addr).add j = ⟨w.heap.size, j, none⟩ := by unfold Addr.add; split <;> simp_all
  rw [ea, Lib.bytesWorld_cell w 5 s j hj]
  have hj' : j < s.data.toList.length := by rw [Array.length_toList]; exact hj
  simp only [strL, List.getD_eq_getElem?_getD, List.getElem?_map, List.getElem?_eq_getElem hj', Option.map_some, Option.getD_some]

def EncPost (L : List Int) (w : World) (e : Ending) (w' : World) : Prop := ∃ v, e = .returned v ∧ Src w' w'.heap.size v L ∧ Below w.heap.size w w'

set_option maxHeartbeats 2000000 in
/-- encode, no counterparty. -/
theorem enc_none (cb : Nat) (typ : ByteArray) (seq : Int) (w : World) (hC : Client w cb typ (.pointer none) seq) (ht : typ.size ≤ 4096) (hs0 : 0 ≤ seq) (hs1 : seq < 18446744073709551616) :
    Calls Yba.prog 11 #[.pointer (some ⟨cb, 0, none⟩)] w (EncPost (headL typ seq) w) := by
  have hcv : ∀ w, (convert 9 39 (.string typ)).run Yba.prog w = .ok (.slice (some ⟨w.heap.size, 0, none⟩) typ.size (grownCap w typ.size 0 5)) (Lib.bytesWorld w 5 typ) := fun w => Lib.run_convert_string_bytes w 9 39 5 typ Yba.underlying9 Yba.underlying39 Yba.underlying5
  have c1 := hC.2.2.1
  have HC : Hid (Client w cb typ (.pointer none) seq) := hC
  have HS : Hid (seq < 18446744073709551616) := hs1
  clear hC hs1
  go_enter Yba.func11, Yba.ntmps11
  go_wp2_with fail
  refine forget (fun W => Below w.heap.size w W ∧ w.heap.size ≤ W.heap.size ∧ Src W W.heap.size (.slice (some ⟨w.heap.size, 0, none⟩) typ.size (grownCap w typ.size 0 5)) (strL typ)) ?_ ?_
  · exact ⟨below_bytes w typ, by rw [Lib.bytesWorld_size]; omega, src_bytes w typ _⟩
  clear hcv c1
  rintro W ⟨hb, hsz, hsrc⟩
  have hCW := HC.out.below hb HC.out.1
  have HBW : Hid (Below w.heap.size w W) := hb
  have HCW : Hid (Client W cb typ (.pointer none) seq) := hCW
  have hsl := strL_len typ
  refine (alp_any W.heap.size W.heap.size W (.slice none 0 0) _ [] (strL typ) W (Nat.le_refl _) (Buf.nil W (Nat.le_refl _)) hsrc (by simp) (by omega)).mono ?_
  rintro e w1 ⟨v1, rfl, hb1⟩
  rw [List.nil_append] at hb1
  have HB1 : Hid (Buf W.heap.size W v1 (uvB (strL typ).length ++ strL typ) w1) := hb1
  have d3 : w1.cell? ⟨cb, 3, none⟩ = some (.pointer none) := (hb1.cell hCW.1).trans hCW.2.2.2.1
  have d4 : w1.cell? ⟨cb, 4, none⟩ = some (.int .u64 seq) := (hb1.cell hCW.1).trans hCW.2.2.2.2
  clear hb hsz hsrc hCW hb1
  go_wp2_with fail
  go_still_tail 6, Yba.mixed
  go_wp2_with fail
  have hul := uvB_len (strL typ).length
  refine (be_any W.heap.size W v1 _ seq w1.drew hs0 HS.out HB1.out.drew (by simp; omega)).mono ?_
  rintro e w2 ⟨v2, rfl, hb2⟩
  have d3' : w2.cell? ⟨cb, 3, none⟩ = some (.pointer none) := (hb2.cell HCW.out.1).trans HCW.out.2.2.2.1
  have HB2 : Hid (Buf W.heap.size W v2 (headL typ seq) w2) := hb2
  clear hb2 HB1 d3 d4
  go_wp2_with fail
  go_ret
  exact ⟨v2, rfl, HB2.out.src, HBW.out.trans (HB2.out.below.mono HBW.out.size)⟩
end Go.Proofs.Ybulkbqjk
