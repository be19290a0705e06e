import Derived.Test.YbulkbqiwFmtSess
import Derived.Test.YbulkbqiwFmtLocks
import Derived.Defers
import Derived.Deep.QuietTactic
import Derived.BigQuiet
import Derived.Deep.RegionHeld3
import Derived.Outline
import Derived.Deep.OwnRows
import Derived.StillTactics
namespace Go.Proofs.YbulkbqiwFmt
open Go.RowKit Go.MuLone
set_option linter.unusedVariables false

theorem Ybaf.u26 : Ybaf.prog.underlying 24 = some (.array 16 5) := Ybaf.underlying24
theorem Ybaf.size26 : (Ybaf.prog.info? 24).map (·.size) = some 16 := by kernel_rfl
theorem Ybaf.cells26 : Ybaf.prog.cellsOf 24 = 16 := by kernel_rfl
theorem Ybaf.cells5 : Ybaf.prog.cellsOf 5 = 1 := by kernel_rfl
theorem Ybaf.key26 : Ybaf.prog.keyTypeAt 2 24 = true := by kernel_rfl

theorem eq26 {xs ys : List Int} (hx : Inc xs) (hy : Inc ys) (w : World) : (Op.equalIn 10000 24 (.agg (bv xs).toArray) (.agg (bv ys).toArray)).run Ybaf.prog w = .ok (decide (xs = ys)) w :=
  run_eq_bytes Ybaf.underlying24 Ybaf.underlying5 Ybaf.cells26 Ybaf.cells5 Ybaf.key26 hx hy w

theorem Ybaf.mixed : Ybaf.prog.follows .mixedOrders = true := by kernel_rfl

/-- A whole array loaded out of the middle of a block, in a region of which every operation only reads. -/
theorem wpStill_load_mid {P : Program} {ops : Array Oper} {w : World} {Q : Act → Prop} {a : Act} {op : Oper} {rest : List Oper} (hw : Region.wanted op (yielded ops a.tmps) = true) (ty : TypeId) (x : Operand) (ho : op.op = .load ty x)
    (b o : Nat) (hx : a.eval x = .pointer (some ⟨b, o, none⟩)) (cs : List Value) (d : TypeDesc) (hc : w.rangeAt b o cs)
    (hu : P.underlying ty = some d) (hd : d.isRow = true) (hi : (P.info? ty).map (·.size) = some cs.length)
    (h : wpStill P ops w Q rest (a.put op.dst (.agg cs.toArray))) : wpStill P ops w Q (op :: rest) a := by
  refine wpStill_step fun K hK => ?_
  rw [if_pos hw]
  unfold Oper.still execOp
  simp only [ho, hx, Instr.loadAt, Instr.sureAddr, Sem.run_bind, Sem.run_pure, Result.andThen_ok, run_loadVar_mid w b o ty cs d hc hu hd hi]
  exact ⟨rfl, hK _ h⟩

theorem forgetW {P : Program} {c : Code} {Q : Exit → Act → World → Prop} {a : Act} {W : World} (R : World → Prop) (h : R W) (k : ∀ W, R W → c.wp P Q a W) : c.wp P Q a W := k W h

theorem range_inc {w : World} {r : Nat} {R : Array Value} {t : TypeId} {inc : List Int} {first : Int} (h : w.heap[r]? = some (.cells R t (0, 0))) (hR : R.toList = bv inc ++ [.int .u64 first]) : w.rangeAt r 0 (bv inc) := by
  intro j v hv
  have hj := (List.getElem?_eq_some_iff.1 hv).1
  have e : R[0 + j]? = some v := by rw [Nat.zero_add, ← Array.getElem?_toList, hR, List.getElem?_append_left hj]; exact hv
  simpa [World.cell?, h] using e
theorem cell_first {w : World} {r : Nat} {R : Array Value} {t : TypeId} {inc : List Int} {first : Int} (h : w.heap[r]? = some (.cells R t (0, 0))) (hR : R.toList = bv inc ++ [.int .u64 first]) (hI : Inc inc) : w.cell? ⟨r, 16, none⟩ = some (.int .u64 first) := by
  have e : R[16]? = some (.int .u64 first) := by rw [← Array.getElem?_toList, hR, List.getElem?_append_right (by rw [bv_len hI]; exact Nat.le_refl _), bv_len hI]; rfl
  simpa [World.cell?, h] using e

section
variable {r b : Nat} {X : List Value} {first : Int} {w : World}
theorem keep0 (h1 : w.rangeAt r 0 X) (h2 : w.cell? ⟨r, 16, none⟩ = some (.int .u64 first)) (h3 : w.there b 22 16) : w.drew.rangeAt r 0 X ∧ w.drew.cell? ⟨r, 16, none⟩ = some (.int .u64 first) ∧ w.drew.there b 22 16 := ⟨h1, h2, h3⟩
theorem keep1 (hb : r ≠ b) (h : w.rangeAt r 0 X ∧ w.cell? ⟨r, 16, none⟩ = some (.int .u64 first) ∧ w.there b 22 16) : (w.setCells b 22 X).rangeAt r 0 X ∧ (w.setCells b 22 X).cell? ⟨r, 16, none⟩ = some (.int .u64 first) ∧ (w.setCells b 22 X).there b 22 16 :=
  ⟨World.rangeAt_setCells_apart h.1 _ _ _ (.inl hb), (World.cell?_setCells_out b X 22 w _ (fun e _ => absurd e hb)).trans h.2.1, World.there_setCells h.2.2 _ _ _⟩
theorem keep2 (hb : r ≠ b) {o : Nat} (h : w.rangeAt r 0 X ∧ w.cell? ⟨r, 16, none⟩ = some (.int .u64 first) ∧ w.there b 22 16) (v : Value) : (w.setCell ⟨b, o, none⟩ v).rangeAt r 0 X ∧ (w.setCell ⟨b, o, none⟩ v).cell? ⟨r, 16, none⟩ = some (.int .u64 first) ∧ (w.setCell ⟨b, o, none⟩ v).there b 22 16 :=
  ⟨World.rangeAt_setCells_apart h.1 b o [v] (.inl hb), (World.cell?_setCells_out b [v] o w _ (fun e _ => absurd e hb)).trans h.2.1, World.there_setCells h.2.2 b o [v]⟩
theorem keep3 (hb : r ≠ b) {o : Nat} (h : w.cell? ⟨r, 16, none⟩ = some (.int .u64 first)) (v : Value) : (w.setCell ⟨b, o, none⟩ v).cell? ⟨r, 16, none⟩ = some (.int .u64 first) :=
  (World.cell?_setCells_out b [v] o w _ (fun e _ => absurd e hb)).trans h
end

set_option maxHeartbeats 1000000 in
/-- Resumed, no incarnation heard before. -/
theorem resumed_first (b : Nat) (own heard inc : List Int) (sent nx cur ak first : Int) (rs : Bool) (R : Array Value) (w : World) (hO : Inc own) (hH : Inc heard) (hI : Inc inc)
    (hS : Sess 52 w b own 0 sent heard false nx cur rs ak) (hR : R.toList = bv inc ++ [.int .u64 first]) :
    Calls Ybaf.prog 5 #[.pointer (some ⟨b, 0, none⟩), .agg R] w fun e w' => e = .returned (.tuple #[]) ∧ Sess 52 w' b own 0 sent inc true first cur true first ∧ Turned b w w' := by
  have hb := hS.lt
  have c17 : (w.alloc (.cells R 29)).cell? ⟨b, 17, none⟩ = some (.int .i32 0) := (hS.alloc _).c17 hO
  have f17 : (w.alloc (.cells R 29)).frozen? ⟨b, 17, none⟩ = false := (hS.alloc _).frozen _
  have HS : Hid (Sess 52 w b own 0 sent heard false nx cur rs ak) := hS
  have HR : Hid (R.toList = bv inc ++ [.int .u64 first]) := hR
  clear hS hR
  go_enter_defers Ybaf.func5, Ybaf.ntmps5
  go_wp2_with fail
  refine (lock_free muLib ⟨b, 17, none⟩ _ c17 f17).mono ?_
  rintro e W ⟨rfl, hW⟩
  have hSW : Sess 52 W b own 1 sent heard false nx cur rs ak := by rw [hW]; exact (HS.out.alloc _).setLock hO 1
  have hTW : Turned b w W := by rw [hW]; exact ((Turned.refl b w).alloc _).setCell _ _
  have hRW : W.heap[w.heap.size]? = some (.cells R 29 (0, 0)) := by
    rw [hW, Below.heap_setCell _ _ _ _ (by show w.heap.size ≠ b; omega)]
    exact Deep.blk_alloc_new _ _
  clear hW c17 f17
  have c38 := hSW.c38 hO hH
  have HSW : Hid (Sess 52 W b own 1 sent heard false nx cur rs ak) := hSW
  have HTW : Hid (Turned b w W) := hTW
  have HRW : Hid (W.heap[w.heap.size]? = some (.cells R 29 (0, 0))) := hRW
  clear hSW hTW hRW
  go_wp2_with fail
  go_quiet (fail)
  go_wp2_with fail
  refine forgetW (fun W' => Sess 52 W' b own 1 sent heard false nx cur rs ak ∧ Turned b w W' ∧ W'.heap[w.heap.size]? = some (.cells R 29 (0, 0))) ⟨HSW.out.drewN _, HTW.out.drewN _, HRW.out⟩ ?_
  clear c38 HSW HTW HRW
  rintro W2 ⟨hS2, hT2, hR2⟩
  obtain ⟨X, hX⟩ : ∃ X, X = bv inc := ⟨_, rfl⟩
  have r0 : W2.rangeAt w.heap.size 0 X := by rw [hX]; exact range_inc hR2 HR.out
  have r16 : W2.cell? ⟨w.heap.size, 16, none⟩ = some (.int .u64 first) := cell_first hR2 HR.out hI
  have th : W2.there b 22 16 := hS2.there hO hH
  have hS3 := (hS2.drew).setHeard hO hH hI
  rw [← hX] at hS3
  have k38 := hS3.c38 hO hI
  have k39 := hS3.c39 hO hI
  have g38 := hS3.frozen 38
  have g39 := hS3.frozen 39
  have hbr : b ≠ w.heap.size := by omega
  have hbr' : w.heap.size ≠ b := by omega
  have u26 := Ybaf.underlying24
  have i26 : (Ybaf.prog.info? 24).map (·.size) = some X.length := by rw [hX, bv_len hI]; exact Ybaf.size26
  have l26 : X.length = 16 := by rw [hX]; exact bv_len hI
  have o26 : ∀ v ∈ X, v.oneCell' = true := by rw [hX]; exact bv_one _
  have HX : Hid (X = bv inc) := hX
  have HS2 : Hid (Sess 52 W2 b own 1 sent heard false nx cur rs ak) := hS2
  have HT2 : Hid (Turned b w W2) := hT2
  have HR2 : Hid (W2.heap[w.heap.size]? = some (.cells R 29 (0, 0))) := hR2
  clear hS2 hT2 hR2 hX hS3
  go_region_held3 (fun w' => w'.rangeAt w.heap.size 0 X ∧ w'.cell? ⟨w.heap.size, 16, none⟩ = some (.int .u64 first) ∧ w'.there b 22 16)
    (first | exact keep0 r0 r16 th | exact keep1 hbr' (by assumption) | exact keep2 hbr' (by assumption) _) (fail)
  go_wp2_with fail
  refine forgetW (fun W' => Sess 52 W' b own 1 sent inc true first cur rs ak ∧ Turned b w W' ∧ W'.cell? ⟨w.heap.size, 16, none⟩ = some (.int .u64 first)) ?_ ?_
  · rw [HX.out]
    exact ⟨((HS2.out.drew.setHeard hO hH hI).setAny hO hI true).setNext hO hI first, ((HT2.out.drew.setCells _ _).setCell _ _).setCell _ _, (keep2 hbr' (keep2 hbr' (keep1 hbr' (keep0 (HX.out ▸ r0) r16 th)) _) _).2.1⟩
  clear r0 r16 th k38 k39 g38 g39 hbr u26 i26 l26 o26 HX HS2 HT2 HR2
  rintro W3 ⟨hS3, hT3, r16⟩
  have k41 := hS3.c41 hO hI
  have k42 := hS3.c42 hO hI
  have g41 := hS3.frozen 41
  have g42 := hS3.frozen 42
  have HS3 : Hid (Sess 52 W3 b own 1 sent inc true first cur rs ak) := hS3
  have HT3 : Hid (Turned b w W3) := hT3
  clear hS3 hT3
  go_region_held3 (fun w' => w'.cell? ⟨w.heap.size, 16, none⟩ = some (.int .u64 first))
    (first | exact r16 | exact keep3 hbr' (by assumption) _) (fail)
  go_wp2_with fail
  have hS4 := ((HS3.out.drew.setResumed hO hI true).setAcked hO hI first)
  refine leaves_cons (f := 10) (args := #[.pointer (some ⟨b, 17, none⟩)]) (by simp) (by simp [go_sem]) ?_
  refine (unlock_deferred muLib ⟨b, 17, none⟩ .returning _ (hS4.c17 hO) (hS4.frozen 17)).mono ?_
  rintro e u' w'' ⟨rfl, rfl, rfl⟩
  exact ⟨_, results_none rfl _ _ _, rfl, hS4.setLock hO 0, ((HT3.out.drew.setCell _ _).setCell _ _).setCell _ _⟩
set_option maxHeartbeats 1000000 in
/-- Resumed, another incarnation heard before. -/
theorem resumed_new (b : Nat) (own heard inc : List Int) (sent nx cur ak first : Int) (rs : Bool) (R : Array Value) (w : World) (hO : Inc own) (hH : Inc heard) (hI : Inc inc)
    (hne : inc ≠ heard) (hS : Sess 52 w b own 0 sent heard true nx cur rs ak) (hR : R.toList = bv inc ++ [.int .u64 first]) :
    Calls Ybaf.prog 5 #[.pointer (some ⟨b, 0, none⟩), .agg R] w fun e w' => e = .returned (.tuple #[]) ∧ Sess 52 w' b own 0 sent inc true first cur true first ∧ Turned b w w' := by
  have hb := hS.lt
  have c17 : (w.alloc (.cells R 29)).cell? ⟨b, 17, none⟩ = some (.int .i32 0) := (hS.alloc _).c17 hO
  have f17 : (w.alloc (.cells R 29)).frozen? ⟨b, 17, none⟩ = false := (hS.alloc _).frozen _
  have HS : Hid (Sess 52 w b own 0 sent heard true nx cur rs ak) := hS
  have HR : Hid (R.toList = bv inc ++ [.int .u64 first]) := hR
  clear hS hR
  go_enter_defers Ybaf.func5, Ybaf.ntmps5
  go_wp2_with fail
  refine (lock_free muLib ⟨b, 17, none⟩ _ c17 f17).mono ?_
  rintro e W ⟨rfl, hW⟩
  have hSW : Sess 52 W b own 1 sent heard true nx cur rs ak := by rw [hW]; exact (HS.out.alloc _).setLock hO 1
  have hTW : Turned b w W := by rw [hW]; exact ((Turned.refl b w).alloc _).setCell _ _
  have hRW : W.heap[w.heap.size]? = some (.cells R 29 (0, 0)) := by
    rw [hW, Below.heap_setCell _ _ _ _ (by show w.heap.size ≠ b; omega)]
    exact Deep.blk_alloc_new _ _
  clear hW c17 f17
  obtain ⟨X, hX⟩ : ∃ X, X = bv inc := ⟨_, rfl⟩
  obtain ⟨Y, hY⟩ : ∃ Y, Y = bv heard := ⟨_, rfl⟩
  have c38 := hSW.c38 hO hH
  have rX : W.rangeAt w.heap.size 0 X := by rw [hX]; exact range_inc hRW HR.out
  have rY : W.rangeAt b 22 Y := by rw [hY]; exact hSW.heardAt hO
  have u26 := Ybaf.underlying24
  have iX : (Ybaf.prog.info? 24).map (·.size) = some X.length := by rw [hX, bv_len hI]; exact Ybaf.size26
  have iY : (Ybaf.prog.info? 24).map (·.size) = some Y.length := by rw [hY, bv_len hH]; exact Ybaf.size26
  have lX : X.length = 16 := by rw [hX]; exact bv_len hI
  have lY : Y.length = 16 := by rw [hY]; exact bv_len hH
  have oX : ∀ v ∈ X, v.oneCell' = true := by rw [hX]; exact bv_one _
  have oY : ∀ v ∈ Y, v.oneCell' = true := by rw [hY]; exact bv_one _
  have heq : ∀ w, (Op.equalIn 10000 24 (.agg X.toArray) (.agg Y.toArray)).run Ybaf.prog w = .ok false w := fun w => by rw [hX, hY, eq26 hI hH]; simp [hne]
  have HSW : Hid (Sess 52 W b own 1 sent heard true nx cur rs ak) := hSW
  have HTW : Hid (Turned b w W) := hTW
  have HRW : Hid (W.heap[w.heap.size]? = some (.cells R 29 (0, 0))) := hRW
  clear hSW hTW hRW hX hY hne
  go_wp2_with fail
  refine wp_region_still_lit Ybaf.mixed (by kernel_rfl) ?_
  iterate 7 still_step
  refine wpStill_load_mid rfl 24 (.tmp 17) rfl w.heap.size 0 rfl X _ rX Ybaf.underlying24 rfl iX ?_
  simp only [Act.put, List.setIfInBounds_toArray, List.set_cons_zero, List.set_cons_succ]
  iterate 3 still_step
  refine wpStill_load_mid rfl 24 (.tmp 21) rfl b 22 rfl Y _ rY Ybaf.underlying24 rfl iY ?_
  simp only [Act.put, List.setIfInBounds_toArray, List.set_cons_zero, List.set_cons_succ]
  iterate 2 still_step
  refine wpStill_nil ?_
  go_wp2_with fail
  refine forgetW (fun W' => Sess 52 W' b own 1 sent heard true nx cur rs ak ∧ Turned b w W' ∧ W'.heap[w.heap.size]? = some (.cells R 29 (0, 0))) ⟨HSW.out.drew, HTW.out.drew, HRW.out⟩ ?_
  clear c38 HSW HTW HRW rX rY u26 iX iY lX lY oX oY heq
  rintro W2 ⟨hS2, hT2, hR2⟩
  obtain ⟨X, hX⟩ : ∃ X, X = bv inc := ⟨_, rfl⟩
  have r0 : W2.rangeAt w.heap.size 0 X := by rw [hX]; exact range_inc hR2 HR.out
  have r16 : W2.cell? ⟨w.heap.size, 16, none⟩ = some (.int .u64 first) := cell_first hR2 HR.out hI
  have th : W2.there b 22 16 := hS2.there hO hH
  have hS3 := (hS2.drew).setHeard hO hH hI
  rw [← hX] at hS3
  have k38 := hS3.c38 hO hI
  have k39 := hS3.c39 hO hI
  have g38 := hS3.frozen 38
  have g39 := hS3.frozen 39
  have hbr : b ≠ w.heap.size := by omega
  have hbr' : w.heap.size ≠ b := by omega
  have u26 := Ybaf.underlying24
  have i26 : (Ybaf.prog.info? 24).map (·.size) = some X.length := by rw [hX, bv_len hI]; exact Ybaf.size26
  have l26 : X.length = 16 := by rw [hX]; exact bv_len hI
  have o26 : ∀ v ∈ X, v.oneCell' = true := by rw [hX]; exact bv_one _
  have HX : Hid (X = bv inc) := hX
  have HS2 : Hid (Sess 52 W2 b own 1 sent heard true nx cur rs ak) := hS2
  have HT2 : Hid (Turned b w W2) := hT2
  have HR2 : Hid (W2.heap[w.heap.size]? = some (.cells R 29 (0, 0))) := hR2
  clear hS2 hT2 hR2 hX hS3
  go_region_held3 (fun w' => w'.rangeAt w.heap.size 0 X ∧ w'.cell? ⟨w.heap.size, 16, none⟩ = some (.int .u64 first) ∧ w'.there b 22 16)
    (first | exact keep0 r0 r16 th | exact keep1 hbr' (by assumption) | exact keep2 hbr' (by assumption) _) (fail)
  go_wp2_with fail
  refine forgetW (fun W' => Sess 52 W' b own 1 sent inc true first cur rs ak ∧ Turned b w W' ∧ W'.cell? ⟨w.heap.size, 16, none⟩ = some (.int .u64 first)) ?_ ?_
  · rw [HX.out]
    exact ⟨((HS2.out.drew.setHeard hO hH hI).setAny hO hI true).setNext hO hI first, ((HT2.out.drew.setCells _ _).setCell _ _).setCell _ _, (keep2 hbr' (keep2 hbr' (keep1 hbr' (keep0 (HX.out ▸ r0) r16 th)) _) _).2.1⟩
  clear r0 r16 th k38 k39 g38 g39 hbr u26 i26 l26 o26 HX HS2 HT2 HR2
  rintro W3 ⟨hS3, hT3, r16⟩
  have k41 := hS3.c41 hO hI
  have k42 := hS3.c42 hO hI
  have g41 := hS3.frozen 41
  have g42 := hS3.frozen 42
  have HS3 : Hid (Sess 52 W3 b own 1 sent inc true first cur rs ak) := hS3
  have HT3 : Hid (Turned b w W3) := hT3
  clear hS3 hT3
  go_region_held3 (fun w' => w'.cell? ⟨w.heap.size, 16, none⟩ = some (.int .u64 first))
    (first | exact r16 | exact keep3 hbr' (by assumption) _) (fail)
  go_wp2_with fail
  have hS4 := ((HS3.out.drew.setResumed hO hI true).setAcked hO hI first)
  refine leaves_cons (f := 10) (args := #[.pointer (some ⟨b, 17, none⟩)]) (by simp) (by simp [go_sem]) ?_
  refine (unlock_deferred muLib ⟨b, 17, none⟩ .returning _ (hS4.c17 hO) (hS4.frozen 17)).mono ?_
  rintro e u' w'' ⟨rfl, rfl, rfl⟩
  exact ⟨_, results_none rfl _ _ _, rfl, hS4.setLock hO 0, ((HT3.out.drew.setCell _ _).setCell _ _).setCell _ _⟩

set_option maxHeartbeats 1000000 in
/-- Resumed, the same incarnation as before. -/
theorem resumed_same (b : Nat) (own heard inc : List Int) (sent nx cur ak first : Int) (rs : Bool) (R : Array Value) (w : World) (hO : Inc own) (hH : Inc heard) (hI : Inc inc)
    (hne : inc = heard) (hS : Sess 52 w b own 0 sent heard true nx cur rs ak) (hR : R.toList = bv inc ++ [.int .u64 first]) :
    Calls Ybaf.prog 5 #[.pointer (some ⟨b, 0, none⟩), .agg R] w fun e w' => e = .returned (.tuple #[]) ∧ Sess 52 w' b own 0 sent inc true nx cur true first ∧ Turned b w w' := by
  have hb := hS.lt
  have c17 : (w.alloc (.cells R 29)).cell? ⟨b, 17, none⟩ = some (.int .i32 0) := (hS.alloc _).c17 hO
  have f17 : (w.alloc (.cells R 29)).frozen? ⟨b, 17, none⟩ = false := (hS.alloc _).frozen _
  have HS : Hid (Sess 52 w b own 0 sent heard true nx cur rs ak) := hS
  have HR : Hid (R.toList = bv inc ++ [.int .u64 first]) := hR
  clear hS hR
  go_enter_defers Ybaf.func5, Ybaf.ntmps5
  go_wp2_with fail
  refine (lock_free muLib ⟨b, 17, none⟩ _ c17 f17).mono ?_
  rintro e W ⟨rfl, hW⟩
  have hSW : Sess 52 W b own 1 sent heard true nx cur rs ak := by rw [hW]; exact (HS.out.alloc _).setLock hO 1
  have hTW : Turned b w W := by rw [hW]; exact ((Turned.refl b w).alloc _).setCell _ _
  have hRW : W.heap[w.heap.size]? = some (.cells R 29 (0, 0)) := by
    rw [hW, Below.heap_setCell _ _ _ _ (by show w.heap.size ≠ b; omega)]
    exact Deep.blk_alloc_new _ _
  clear hW c17 f17
  obtain ⟨X, hX⟩ : ∃ X, X = bv inc := ⟨_, rfl⟩
  obtain ⟨Y, hY⟩ : ∃ Y, Y = bv heard := ⟨_, rfl⟩
  have c38 := hSW.c38 hO hH
  have rX : W.rangeAt w.heap.size 0 X := by rw [hX]; exact range_inc hRW HR.out
  have rY : W.rangeAt b 22 Y := by rw [hY]; exact hSW.heardAt hO
  have u26 := Ybaf.underlying24
  have iX : (Ybaf.prog.info? 24).map (·.size) = some X.length := by rw [hX, bv_len hI]; exact Ybaf.size26
  have iY : (Ybaf.prog.info? 24).map (·.size) = some Y.length := by rw [hY, bv_len hH]; exact Ybaf.size26
  have lX : X.length = 16 := by rw [hX]; exact bv_len hI
  have lY : Y.length = 16 := by rw [hY]; exact bv_len hH
  have oX : ∀ v ∈ X, v.oneCell' = true := by rw [hX]; exact bv_one _
  have oY : ∀ v ∈ Y, v.oneCell' = true := by rw [hY]; exact bv_one _
  have heq : ∀ w, (Op.equalIn 10000 24 (.agg X.toArray) (.agg Y.toArray)).run Ybaf.prog w = .ok true w := fun w => by rw [hX, hY, eq26 hI hH]; simp [hne]
  have HSW : Hid (Sess 52 W b own 1 sent heard true nx cur rs ak) := hSW
  have HTW : Hid (Turned b w W) := hTW
  have HRW : Hid (W.heap[w.heap.size]? = some (.cells R 29 (0, 0))) := hRW
  have HNE : Hid (inc = heard) := hne
  clear hSW hTW hRW hX hY hne
  go_wp2_with fail
  refine wp_region_still_lit Ybaf.mixed (by kernel_rfl) ?_
  iterate 7 still_step
  refine wpStill_load_mid rfl 24 (.tmp 17) rfl w.heap.size 0 rfl X _ rX Ybaf.underlying24 rfl iX ?_
  simp only [Act.put, List.setIfInBounds_toArray, List.set_cons_zero, List.set_cons_succ]
  iterate 3 still_step
  refine wpStill_load_mid rfl 24 (.tmp 21) rfl b 22 rfl Y _ rY Ybaf.underlying24 rfl iY ?_
  simp only [Act.put, List.setIfInBounds_toArray, List.set_cons_zero, List.set_cons_succ]
  iterate 2 still_step
  refine wpStill_nil ?_
  go_wp2_with fail
  have hbr' : w.heap.size ≠ b := by omega
  refine forgetW (fun W' => Sess 52 W' b own 1 sent inc true nx cur rs ak ∧ Turned b w W' ∧ W'.cell? ⟨w.heap.size, 16, none⟩ = some (.int .u64 first)) ⟨HNE.out ▸ HSW.out.drew, HTW.out.drew, cell_first (w := W.drew) HRW.out HR.out hI⟩ ?_
  clear c38 HSW HTW HRW rX rY u26 iX iY lX lY oX oY heq
  rintro W3 ⟨hS3, hT3, r16⟩
  have k41 := hS3.c41 hO hI
  have k42 := hS3.c42 hO hI
  have g41 := hS3.frozen 41
  have g42 := hS3.frozen 42
  have HS3 : Hid (Sess 52 W3 b own 1 sent inc true nx cur rs ak) := hS3
  have HT3 : Hid (Turned b w W3) := hT3
  clear hS3 hT3
  go_region_held3 (fun w' => w'.cell? ⟨w.heap.size, 16, none⟩ = some (.int .u64 first))
    (first | exact r16 | exact keep3 hbr' (by assumption) _) (fail)
  go_wp2_with fail
  have hS4 := ((HS3.out.drew.setResumed hO hI true).setAcked hO hI first)
  refine leaves_cons (f := 10) (args := #[.pointer (some ⟨b, 17, none⟩)]) (by simp) (by simp [go_sem]) ?_
  refine (unlock_deferred muLib ⟨b, 17, none⟩ .returning _ (hS4.c17 hO) (hS4.frozen 17)).mono ?_
  rintro e u' w'' ⟨rfl, rfl, rfl⟩
  exact ⟨_, results_none rfl _ _ _, rfl, hS4.setLock hO 0, ((HT3.out.drew.setCell _ _).setCell _ _).setCell _ _⟩
end Go.Proofs.YbulkbqiwFmt
