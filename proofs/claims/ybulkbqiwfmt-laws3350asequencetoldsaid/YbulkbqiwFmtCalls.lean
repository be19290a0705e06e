import Derived.Test.YbulkbqiwFmtResumed
namespace Go.Proofs.YbulkbqiwFmt
open Go.RowKit Go.MuLone
set_option linter.unusedVariables false

/-- Handed: the next number, one up. -/
theorem handed_any (b : Nat) (own heard : List Int) (sent nx cur ak : Int) (hA rs : Bool) (w : World) (hO : Inc own) (hH : Inc heard) (hS : Sess 52 w b own 0 sent heard hA nx cur rs ak) :
    Calls Ybaf.prog 6 #[.pointer (some ⟨b, 0, none⟩)] w fun e w' => e = .returned (.tuple #[]) ∧ Sess 52 w' b own 0 sent heard hA ((nx + 1) % 18446744073709551616) cur rs ak ∧ Turned b w w' := by
  have c17 := hS.c17 hO
  have f17 := hS.frozen 17
  have HS : Hid (Sess 52 w b own 0 sent heard hA nx cur rs ak) := hS
  clear hS
  go_enter_defers Ybaf.func6, Ybaf.ntmps6
  go_wp2_with fail
  refine (lock_free muLib ⟨b, 17, none⟩ _ c17 f17).mono ?_
  rintro e W ⟨rfl, hW⟩
  have hSW : Sess 52 W b own 1 sent heard hA nx cur rs ak := by rw [hW]; exact HS.out.setLock hO 1
  have hTW : Turned b w W := by rw [hW]; exact (Turned.refl b w).setCell _ _
  clear hW c17 f17
  have c39 := hSW.c39 hO hH
  have f39 := hSW.frozen 39
  have HSW : Hid (Sess 52 W b own 1 sent heard hA nx cur rs ak) := hSW
  have HTW : Hid (Turned b w W) := hTW
  clear hSW hTW
  go_wp2_with fail
  have hS4 := HSW.out.setNext hO hH ((nx + 1) % 18446744073709551616)
  refine leaves_cons (f := 10) (args := #[.pointer (some ⟨b, 17, none⟩)]) (by simp) (by simp [go_sem]) ?_
  refine (unlock_deferred muLib ⟨b, 17, none⟩ .returning _ (hS4.c17 hO) (hS4.frozen 17)).mono ?_
  rintro e u' w'' ⟨rfl, rfl, rfl⟩
  exact ⟨_, results_none rfl _ _ _, rfl, hS4.setLock hO 0, (HTW.out.setCell _ _).setCell _ _⟩

/-- Fresh, at the number that is expected next. -/
theorem fresh_next (b : Nat) (own heard : List Int) (sent nx cur ak : Int) (hA rs : Bool) (w : World) (hO : Inc own) (hH : Inc heard) (hS : Sess 52 w b own 0 sent heard hA nx cur rs ak) :
    Calls Ybaf.prog 7 #[.pointer (some ⟨b, 0, none⟩), .agg #[.int .u64 nx, .slice none 0 0]] w fun e w' => e = .returned (.tuple #[.bool true, .nilIface]) ∧ Sess 52 w' b own 0 sent heard hA nx cur rs ak ∧ Turned b w w' := by
  have c17 : (w.alloc (.cells #[.int .u64 nx, .slice none 0 0] 36)).cell? ⟨b, 17, none⟩ = some (.int .i32 0) := (hS.alloc _).c17 hO
  have f17 : (w.alloc (.cells #[.int .u64 nx, .slice none 0 0] 36)).frozen? ⟨b, 17, none⟩ = false := (hS.alloc _).frozen _
  have hb := hS.lt
  have HS : Hid (Sess 52 w b own 0 sent heard hA nx cur rs ak) := hS
  clear hS
  go_enter_defers Ybaf.func7, Ybaf.ntmps7
  go_wp2_with fail
  refine (lock_free muLib ⟨b, 17, none⟩ _ c17 f17).mono ?_
  rintro e W ⟨rfl, hW⟩
  have hSW : Sess 52 W b own 1 sent heard hA nx cur rs ak := by rw [hW]; exact (HS.out.alloc _).setLock hO 1
  have hTW : Turned b w W := by rw [hW]; exact ((Turned.refl b w).alloc _).setCell _ _
  have r0 : W.cell? ⟨w.heap.size, 0, none⟩ = some (.int .u64 nx) := by
    rw [hW]
    simp [go_sem]
  clear hW c17 f17
  have c39 := hSW.c39 hO hH
  have hd : decide (nx < nx) = false := by simp
  have HSW : Hid (Sess 52 W b own 1 sent heard hA nx cur rs ak) := hSW
  have HTW : Hid (Turned b w W) := hTW
  clear hSW hTW
  go_wp2_with fail
  go_quiet (fail)
  go_wp2_with fail
  refine forgetW (fun W' => Sess 52 W' b own 1 sent heard hA nx cur rs ak ∧ Turned b w W' ∧ W'.cell? ⟨w.heap.size, 0, none⟩ = some (.int .u64 nx)) ⟨HSW.out.drewN _, HTW.out.drewN _, r0⟩ ?_
  clear c39 HSW HTW r0
  rintro W2 ⟨hS2, hT2, r0⟩
  have c39 := hS2.c39 hO hH
  have HS2 : Hid (Sess 52 W2 b own 1 sent heard hA nx cur rs ak) := hS2
  have HT2 : Hid (Turned b w W2) := hT2
  clear hS2 hT2
  go_quiet (fail)
  go_wp2_with fail
  have hS4 := HS2.out.drewN nq
  refine leaves_cons (f := 10) (args := #[.pointer (some ⟨b, 17, none⟩)]) (by simp) (by simp [go_sem]) ?_
  refine (unlock_deferred muLib ⟨b, 17, none⟩ .returning _ (hS4.c17 hO) (hS4.frozen 17)).mono ?_
  rintro e u' w'' ⟨rfl, rfl, rfl⟩
  exact ⟨_, results_tmp2 rfl _ _ _, rfl, hS4.setLock hO 0, (HT2.out.drewN nq).setCell _ _⟩

theorem Turned.setNew {b k : Nat} {w w' : World} (h : Turned b w w') (hk : w.heap.size ≤ k) (o : Nat) (v : Value) : Turned b w (w'.setCell ⟨k, o, none⟩ v) :=
  ⟨h.os, h.tape, h.output, by simpa using h.size, fun i hi hb => (Below.heap_setCell _ _ _ _ (by show i ≠ k; omega)).trans (h.block i hi hb)⟩
theorem Sess.setOther {t : TypeId} {w : World} {b k : Nat} {own heard : List Int} {lk sent nx cur ak : Int} {hA rs : Bool} (h : Sess t w b own lk sent heard hA nx cur rs ak) (hk : b ≠ k) (o : Nat) (v : Value) : Sess t (w.setCell ⟨k, o, none⟩ v) b own lk sent heard hA nx cur rs ak :=
  (Below.heap_setCell _ _ _ _ hk).trans h

/-- AckDue, nothing to acknowledge. -/
theorem ack_none (b : Nat) (own heard : List Int) (sent nx cur ak : Int) (hA : Bool) (w : World) (hO : Inc own) (hH : Inc heard) (hle : nx ≤ ak) (hS : Sess 52 w b own 0 sent heard hA nx cur true ak) :
    Calls Ybaf.prog 8 #[.pointer (some ⟨b, 0, none⟩)] w fun e w' => e = .returned (.tuple #[.agg #[.int .u64 0], .bool false]) ∧ Turned b w w' := by
  have c17 : (w.alloc (.cells #[.int .u64 0] 38)).cell? ⟨b, 17, none⟩ = some (.int .i32 0) := (hS.alloc _).c17 hO
  have f17 : (w.alloc (.cells #[.int .u64 0] 38)).frozen? ⟨b, 17, none⟩ = false := (hS.alloc _).frozen _
  have hb := hS.lt
  have HS : Hid (Sess 52 w b own 0 sent heard hA nx cur true ak) := hS
  clear hS
  go_enter_defers Ybaf.func8, Ybaf.ntmps8
  go_wp2_with fail
  refine (lock_free muLib ⟨b, 17, none⟩ _ c17 f17).mono ?_
  rintro e W ⟨rfl, hW⟩
  have hSW : Sess 52 W b own 1 sent heard hA nx cur true ak := by rw [hW]; exact (HS.out.alloc _).setLock hO 1
  have hTW : Turned b w W := by rw [hW]; exact ((Turned.refl b w).alloc _).setCell _ _
  have r0 : W.cell? ⟨w.heap.size, 0, none⟩ = some (.int .u64 0) := by
    rw [hW]
    simp [go_sem]
  have z0 : W.frozen? ⟨w.heap.size, 0, none⟩ = false := by
    rw [hW]
    simp [go_sem]
  clear hW c17 f17
  have c39 := hSW.c39 hO hH
  have c41 := hSW.c41 hO hH
  have c42 := hSW.c42 hO hH
  have HSW : Hid (Sess 52 W b own 1 sent heard hA nx cur true ak) := hSW
  have HTW : Hid (Turned b w W) := hTW
  clear hSW hTW
  go_wp2_with fail
  go_quiet (fail)
  go_wp2_with fail
  have hS4 := (HSW.out.drewN nq).setOther (k := w.heap.size) (by omega) 0 (.int .u64 0)
  refine leaves_cons (f := 10) (args := #[.pointer (some ⟨b, 17, none⟩)]) (by simp) (by simp [go_sem]) ?_
  refine (unlock_deferred muLib ⟨b, 17, none⟩ .returning _ (hS4.c17 hO) (hS4.frozen 17)).mono ?_
  rintro e u' w'' ⟨rfl, rfl, rfl⟩
  refine ⟨.tuple #[.agg #[.int .u64 0], .bool false], ?_, rfl, ((HTW.out.drewN nq).setNew (Nat.le_refl _) _ _).setCell _ _⟩
  simp [results, Ybaf.results8, go_sem, r0]

/-- AckDue, something to acknowledge. -/
theorem ack_due (b : Nat) (own heard : List Int) (sent nx cur ak : Int) (hA : Bool) (w : World) (hO : Inc own) (hH : Inc heard) (hlt : ak < nx) (hS : Sess 52 w b own 0 sent heard hA nx cur true ak) :
    Calls Ybaf.prog 8 #[.pointer (some ⟨b, 0, none⟩)] w fun e w' => e = .returned (.tuple #[.agg #[.int .u64 nx], .bool true]) ∧ Turned b w w' := by
  have c17 : (w.alloc (.cells #[.int .u64 0] 38)).cell? ⟨b, 17, none⟩ = some (.int .i32 0) := (hS.alloc _).c17 hO
  have f17 : (w.alloc (.cells #[.int .u64 0] 38)).frozen? ⟨b, 17, none⟩ = false := (hS.alloc _).frozen _
  have hb := hS.lt
  have HS : Hid (Sess 52 w b own 0 sent heard hA nx cur true ak) := hS
  clear hS
  go_enter_defers Ybaf.func8, Ybaf.ntmps8
  go_wp2_with fail
  refine (lock_free muLib ⟨b, 17, none⟩ _ c17 f17).mono ?_
  rintro e W ⟨rfl, hW⟩
  have hSW : Sess 52 W b own 1 sent heard hA nx cur true ak := by rw [hW]; exact (HS.out.alloc _).setLock hO 1
  have hTW : Turned b w W := by rw [hW]; exact ((Turned.refl b w).alloc _).setCell _ _
  have r0 : W.cell? ⟨w.heap.size, 0, none⟩ = some (.int .u64 0) := by
    rw [hW]
    simp [go_sem]
  have z0 : W.frozen? ⟨w.heap.size, 0, none⟩ = false := by
    rw [hW]
    simp [go_sem]
  clear hW c17 f17
  have c39 := hSW.c39 hO hH
  have c41 := hSW.c41 hO hH
  have c42 := hSW.c42 hO hH
  have f42 := hSW.frozen 42
  have hle : decide (nx ≤ ak) = false := by simp; omega
  have HSW : Hid (Sess 52 W b own 1 sent heard hA nx cur true ak) := hSW
  have HTW : Hid (Turned b w W) := hTW
  clear hSW hTW
  go_wp2_with fail
  go_quiet (fail)
  go_wp2_with fail
  refine forgetW (fun W' => Sess 52 W' b own 1 sent heard hA nx cur true nx ∧ Turned b w W' ∧ W'.cell? ⟨w.heap.size, 0, none⟩ = some (.int .u64 0) ∧ W'.frozen? ⟨w.heap.size, 0, none⟩ = false) ⟨(HSW.out.drewN nq).setAcked hO hH nx, (HTW.out.drewN nq).setCell _ _, ?_, ?_⟩ ?_
  · exact (World.cell?_setCell_other _ _ _ _ (by simp)).trans r0
  · simpa using z0
  clear c39 c41 c42 f42 HSW HTW r0 z0
  rintro W2 ⟨hS2, hT2, r0, z0⟩
  have c39 := hS2.c39 hO hH
  have HS2 : Hid (Sess 52 W2 b own 1 sent heard hA nx cur true nx) := hS2
  have HT2 : Hid (Turned b w W2) := hT2
  have hne : b ≠ w.heap.size := by omega
  have hne' : w.heap.size ≠ b := by omega
  clear hS2 hT2
  go_region_held3 (fun w' => w'.cell? ⟨b, 39, none⟩ = some (.int .u64 nx)) (first | exact c39 | exact (World.cell?_setCell_far _ _ _ _ hne').trans (by assumption)) (fail)
  go_wp2_with fail
  have hS4 := (HS2.out.drew.setOther hne 0 (.int .u64 0)).setOther hne 0 (.int .u64 nx)
  refine leaves_cons (f := 10) (args := #[.pointer (some ⟨b, 17, none⟩)]) (by simp) (by simp [go_sem]) ?_
  refine (unlock_deferred muLib ⟨b, 17, none⟩ .returning _ (hS4.c17 hO) (hS4.frozen 17)).mono ?_
  rintro e u' w'' ⟨rfl, rfl, rfl⟩
  refine ⟨.tuple #[.agg #[.int .u64 nx], .bool true], ?_, rfl, ((HT2.out.drew.setNew (Nat.le_refl _) _ _).setNew (Nat.le_refl _) _ _).setCell _ _⟩
  simp [results, Ybaf.results8, go_sem, r0]
end Go.Proofs.YbulkbqiwFmt
