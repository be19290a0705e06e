import Derived.Test.YbulkbqiiAcl
import Derived.Test.YbulkbqiiCopy
import Derived.Test.YbulkbqiiBuild
import Derived.ProofKit
namespace Go.Proofs.Ybulkbqii
open Go.RowKit Go.ChangeShapes Go.WideShapes

/-- At a call: of the world in which it is made keep these facts alone. -/
theorem forget {P : Program} {f : Nat} {args : Array Value} {Q : Ending → World → Prop} {W : World} (R : World → Prop) (h : R W) (k : ∀ W, R W → Calls P f args W Q) : Calls P f args W Q := k W h

/-- The rune at place i of the row that the law makes. -/
def rv (zs : List Int) (len : Nat) (en : Int) (i : Nat) : Int := if i < len then zs.getD i 0 else en

theorem below_drewN {B : Nat} {w w' : World} (h : Below B w w') (n : Nat) : Below B w (w'.drewN n) := ⟨h.os, h.tape, h.output, h.size, h.block⟩

set_option maxHeartbeats 4000000 in
theorem row_small (a0 : Option Addr) (len cap : Nat) (zs : List Int) (idx ps en ba : Int) (w : World) (hz : len ≤ zs.length) (hlen : len ≤ 1024)
    (hi0 : 0 ≤ idx) (hi1 : idx < 4294967296) (he0 : -2147483648 ≤ en) (he1 : en ≤ 2147483647)
    (ha : 0 < len → ∃ b off, a0 = some ⟨b, off, none⟩ ∧ b < w.heap.size ∧ ∀ i, i < len → w.cell? ⟨b, off + i, none⟩ = some (.int .i32 (zs.getD i 0))) :
    Calls Yba.prog 4 #[.slice a0 len cap, .int .u32 idx, .int .i32 ps, .int .i32 en, .int .i32 ba] w fun e w' => e = .returned (.bool true) ∧ Below w.heap.size w w' := by
  obtain ⟨w1, hcp, hb1, hs1, hrow⟩ := copy_ex w a0 len cap zs hz (fun h => by
    obtain ⟨b, off, e, hb, hc⟩ := ha h
    exact ⟨_, e, hb, fun i hi => by rw [add_plain]; exact hc i hi⟩)
  have hmk : ∀ w : World, (Instr.makeSlice 33 (.int .i64 ((len : Int) + 1)) (.int .i64 ((len : Int) + 1))).run Yba.prog w = .ok (.slice (some ⟨w.heap.size, 0, none⟩) (len + 1) (len + 1)) (w.alloc (.cells (madeCells #[.int .i32 0] (len + 1)) 21)) :=
    fun w => run_make_row' (P := Yba.prog) 33 21 (.int .i32 0) 4 Yba.underlying33 Yba.info21 rfl .i64 .i64 (len + 1) (by omega) (by omega) w
  have hz1 : w1.frozen? ⟨w.heap.size, len, none⟩ = false := hrow.frozen len
  have hc1 : w1.cell? ⟨w.heap.size, len, none⟩ = some (.int .i32 0) := by simpa using hrow.cell (i := len) (by omega)
  obtain ⟨st, hst, hsl⟩ : ∃ st : Nat, wrap32 (idx % ((len : Int) + 1)) = (st : Int) ∧ st ≤ len := by
    have h0 : 0 ≤ idx % ((len : Int) + 1) := Int.emod_nonneg _ (by omega)
    have h1 : idx % ((len : Int) + 1) < (len : Int) + 1 := Int.emod_lt_of_pos _ (by omega)
    refine ⟨(idx % ((len : Int) + 1)).toNat, ?_, by omega⟩
    unfold wrap32
    omega
  have HB : Hid (Below w.heap.size w w1) := hb1
  have HR : Hid (w1.rowIs w.heap.size 21 (len + 1) fun i => Value.int IntKind.i32 (if i < len then zs.getD i 0 else 0)) := hrow
  have HA : Hid (0 < len → ∃ b off, a0 = some ⟨b, off, none⟩ ∧ b < w.heap.size ∧ ∀ i, i < len → w.cell? ⟨b, off + i, none⟩ = some (.int .i32 (zs.getD i 0))) := ha
  clear hb1 hrow ha
  obtain ⟨M, hM, hM1⟩ := built_runes w.heap.size (len + 1)
  go_enter Yba.func4, Yba.ntmps4
  go_wp2_with (refine wpList_built rfl 53 #[(1, .tmp 41)] rfl [(1, .slice (some ⟨w.heap.size, 0, none⟩) (len + 1) (len + 1))] (by simp [Act.eval]) M hM ?_)
  refine forget (fun W => Below w.heap.size w W ∧ (∀ i, i < len + 1 → W.cell? ⟨w.heap.size, i, none⟩ = some (.int .i32 (rv zs len en i))) ∧ W.cell? ⟨w.heap.size + 1, 1, none⟩ = some (.slice (some ⟨w.heap.size, 0, none⟩) (len + 1) (len + 1)) ∧
    W.cell? ⟨w.heap.size + 1 + 1 + 1, 1, none⟩ = some (.pointer (some ⟨w.heap.size + 1 + 1, 0, none⟩)) ∧ W.cell? ⟨w.heap.size + 1 + 1 + 1, 3, none⟩ = some (.int .i32 st) ∧ W.cell? ⟨w.heap.size + 1 + 1 + 1, 4, none⟩ = some (.int .i32 en) ∧ W.cell? ⟨w.heap.size + 1 + 1 + 1, 5, none⟩ = some (.int .i32 ps)) ?_ ?_
  · refine ⟨?_, ?_, ?_, ?_, ?_, ?_, ?_⟩
    · refine ((((HB.out.setCell (Nat.le_refl _) _).alloc ?_ _).alloc ?_ _).alloc ?_ _) <;> simp <;> omega
    · intro i hi
      refine ((((HR.out.set len (.int .i32 en)).alloc (.cells M 53)).alloc _).alloc _).cell hi |>.trans ?_
      unfold rv
      by_cases h : i = len
      · subst h; simp
      · have : i < len := by omega
        simp [h, this]
    all_goals simp [go_sem, hs1, hM1]
  · rintro W ⟨hb, hrs, hm1, ha1, ha3, ha4, ha5⟩
    clear hcp hmk hz1 hc1 HB HR hM hM1 hs1 hst
    have hs := hrs st (by omega)
    have HRS : Hid (∀ i, i < len + 1 → W.cell? ⟨w.heap.size, i, none⟩ = some (.int .i32 (rv zs len en i))) := hrs
    clear hrs
    have hdl : decide ((1024 : Int) < (len : Int)) = false := by simp; omega
    obtain ⟨r, hr⟩ : ∃ r, r = rv zs len en st := ⟨_, rfl⟩
    rw [← hr] at hs
    have HRV : Hid (r = rv zs len en st) := hr
    clear hr
    have hsl' : (st : Int) < ((len + 1 : Nat) : Int) := by omega
    by_cases hp : ps = 1
    · have hp' : (ps == 1) = true := by simp [hp]
      have ha5' : W.cell? ⟨w.heap.size + 1 + 1 + 1, 5, none⟩ = some (.int .i32 1) := by rw [ha5, hp]
      clear hp
      by_cases hneg : r < 0
      · refine (acl_class _ _ _ _ _ _ st r W hsl' hneg ha1 ha3 ha5' hm1 hs).mono ?_
        rintro e w' ⟨rfl, n, rfl⟩
        clear ha5'
        go_wp2
        go_loopw [18] (fun i wr => ∃ k : Nat, k ≤ len ∧ i = .int .i64 k ∧ Below w.heap.size w wr ∧ (∀ i, i < len + 1 → wr.cell? ⟨w.heap.size, i, none⟩ = some (.int .i32 (rv zs len en i))) ∧ wr.cell? ⟨w.heap.size + 1 + 1 + 1, 3, none⟩ = some (.int .i32 st) ∧ wr.cell? ⟨w.heap.size + 1 + 1 + 1, 4, none⟩ = some (.int .i32 en) ∧ wr.cell? ⟨w.heap.size + 1 + 1 + 1, 5, none⟩ = some (.int .i32 ps))
          (fun i _ => len - (intOf i).toNat)
        case atStart => exact ⟨0, Nat.zero_le _, rfl, below_drewN hb _, HRS.out, ha3, ha4, ha5⟩
        case round =>
          obtain ⟨k, hk, rfl, hbr, hrsr, h3, h4, h5⟩ := hrel
          clear hb hm1 ha1 ha3 ha4 ha5
          by_cases hlt : k < len
          · obtain ⟨b, off, ea, hbb, hcc⟩ := HA.out (by omega)
            subst ea
            have hx : wr.cell? ⟨b, off + k, none⟩ = some (.int .i32 (zs.getD k 0)) := (hbr.cell hbb).trans (hcc k hlt)
            have hy : wr.cell? ⟨w.heap.size, k, none⟩ = some (.int .i32 (zs.getD k 0)) := by rw [hrsr k (by omega)]; simp [rv, hlt]
            obtain ⟨x, hxx⟩ : ∃ x, x = zs.getD k 0 := ⟨_, rfl⟩
            rw [← hxx] at hx hy
            have HRR : Hid (∀ i, i < len + 1 → wr.cell? ⟨w.heap.size, i, none⟩ = some (.int .i32 (rv zs len en i))) := hrsr
            have HBR : Hid (Below w.heap.size w wr) := hbr
            clear hrsr hbr hcc hxx
            have k1 : (k : Int) < (len : Int) := by omega
            have k2 : (k : Int) < ((len + 1 : Nat) : Int) := by omega
            go_wp2
            go_quiet (fail)
            go_wp2
            go_roundw
            case rel => exact ⟨k + 1, by omega, by go_num, below_drewN HBR.out _, HRR.out, h3, h4, h5⟩
            case measure => simp [intOf]; omega
          · have k1 : k = len := by omega
            subst k1
            go_wp2
            go_ret
            exact ⟨rfl, hbr⟩
      · have hneg' : decide (r < 0) = false := by simpa using hneg
        refine (acl_char _ _ _ _ _ _ st r en W hsl' hneg' ha1 ha3 ha4 ha5' hm1 hs).mono ?_
        rintro e w' ⟨rfl, n, rfl⟩
        clear ha5'
        by_cases hE : en = (st : Int) + 1
        · have hA : (wrap32 (en - (st : Int)) == 1) = true := by unfold wrap32; simp; omega
          have hB : (en == (st : Int) + 1) = true := by simp [hE]
          clear hE
          go_wp2
          go_loopw [18] (fun i wr => ∃ k : Nat, k ≤ len ∧ i = .int .i64 k ∧ Below w.heap.size w wr ∧ (∀ i, i < len + 1 → wr.cell? ⟨w.heap.size, i, none⟩ = some (.int .i32 (rv zs len en i))) ∧ wr.cell? ⟨w.heap.size + 1 + 1 + 1, 3, none⟩ = some (.int .i32 st) ∧ wr.cell? ⟨w.heap.size + 1 + 1 + 1, 4, none⟩ = some (.int .i32 en) ∧ wr.cell? ⟨w.heap.size + 1 + 1 + 1, 5, none⟩ = some (.int .i32 ps))
            (fun i _ => len - (intOf i).toNat)
          case atStart => exact ⟨0, Nat.zero_le _, rfl, below_drewN hb _, HRS.out, ha3, ha4, ha5⟩
          case round =>
            obtain ⟨k, hk, rfl, hbr, hrsr, h3, h4, h5⟩ := hrel
            clear hb hm1 ha1 ha3 ha4 ha5
            by_cases hlt : k < len
            · obtain ⟨b, off, ea, hbb, hcc⟩ := HA.out (by omega)
              subst ea
              have hx : wr.cell? ⟨b, off + k, none⟩ = some (.int .i32 (zs.getD k 0)) := (hbr.cell hbb).trans (hcc k hlt)
              have hy : wr.cell? ⟨w.heap.size, k, none⟩ = some (.int .i32 (zs.getD k 0)) := by rw [hrsr k (by omega)]; simp [rv, hlt]
              obtain ⟨x, hxx⟩ : ∃ x, x = zs.getD k 0 := ⟨_, rfl⟩
              rw [← hxx] at hx hy
              have HRR : Hid (∀ i, i < len + 1 → wr.cell? ⟨w.heap.size, i, none⟩ = some (.int .i32 (rv zs len en i))) := hrsr
              have HBR : Hid (Below w.heap.size w wr) := hbr
              clear hrsr hbr hcc hxx
              have k1 : (k : Int) < (len : Int) := by omega
              have k2 : (k : Int) < ((len + 1 : Nat) : Int) := by omega
              go_wp2
              go_quiet (fail)
              go_wp2
              go_roundw
              case rel => exact ⟨k + 1, by omega, by go_num, below_drewN HBR.out _, HRR.out, h3, h4, h5⟩
              case measure => simp [intOf]; omega
            · have k1 : k = len := by omega
              subst k1
              go_wp2
              go_ret
              exact ⟨rfl, hbr⟩
        · have hA : (wrap32 (en - (st : Int)) == 1) = false := by unfold wrap32; simp; omega
          have hB : (en == (st : Int) + 1) = false := by simp [hE]
          clear hE
          go_wp2
          go_loopw [18] (fun i wr => ∃ k : Nat, k ≤ len ∧ i = .int .i64 k ∧ Below w.heap.size w wr ∧ (∀ i, i < len + 1 → wr.cell? ⟨w.heap.size, i, none⟩ = some (.int .i32 (rv zs len en i))) ∧ wr.cell? ⟨w.heap.size + 1 + 1 + 1, 3, none⟩ = some (.int .i32 st) ∧ wr.cell? ⟨w.heap.size + 1 + 1 + 1, 4, none⟩ = some (.int .i32 en) ∧ wr.cell? ⟨w.heap.size + 1 + 1 + 1, 5, none⟩ = some (.int .i32 ps))
            (fun i _ => len - (intOf i).toNat)
          case atStart => exact ⟨0, Nat.zero_le _, rfl, below_drewN hb _, HRS.out, ha3, ha4, ha5⟩
          case round =>
            obtain ⟨k, hk, rfl, hbr, hrsr, h3, h4, h5⟩ := hrel
            clear hb hm1 ha1 ha3 ha4 ha5
            by_cases hlt : k < len
            · obtain ⟨b, off, ea, hbb, hcc⟩ := HA.out (by omega)
              subst ea
              have hx : wr.cell? ⟨b, off + k, none⟩ = some (.int .i32 (zs.getD k 0)) := (hbr.cell hbb).trans (hcc k hlt)
              have hy : wr.cell? ⟨w.heap.size, k, none⟩ = some (.int .i32 (zs.getD k 0)) := by rw [hrsr k (by omega)]; simp [rv, hlt]
              obtain ⟨x, hxx⟩ : ∃ x, x = zs.getD k 0 := ⟨_, rfl⟩
              rw [← hxx] at hx hy
              have HRR : Hid (∀ i, i < len + 1 → wr.cell? ⟨w.heap.size, i, none⟩ = some (.int .i32 (rv zs len en i))) := hrsr
              have HBR : Hid (Below w.heap.size w wr) := hbr
              clear hrsr hbr hcc hxx
              have k1 : (k : Int) < (len : Int) := by omega
              have k2 : (k : Int) < ((len + 1 : Nat) : Int) := by omega
              go_wp2
              go_quiet (fail)
              go_wp2
              go_roundw
              case rel => exact ⟨k + 1, by omega, by go_num, below_drewN HBR.out _, HRR.out, h3, h4, h5⟩
              case measure => simp [intOf]; omega
            · have k1 : k = len := by omega
              subst k1
              go_wp2
              go_ret
              exact ⟨rfl, hbr⟩
    · have hp' : (ps == 1) = false := by simp [hp]
      clear hp
      refine (acl_many _ _ _ _ ps W ha1 ha5 hp').mono ?_
      rintro e w' ⟨rfl, n, rfl⟩
      clear hs
      go_wp2
      go_loopw [18] (fun i wr => ∃ k : Nat, k ≤ len ∧ i = .int .i64 k ∧ Below w.heap.size w wr ∧ (∀ i, i < len + 1 → wr.cell? ⟨w.heap.size, i, none⟩ = some (.int .i32 (rv zs len en i))) ∧ wr.cell? ⟨w.heap.size + 1 + 1 + 1, 3, none⟩ = some (.int .i32 st) ∧ wr.cell? ⟨w.heap.size + 1 + 1 + 1, 4, none⟩ = some (.int .i32 en) ∧ wr.cell? ⟨w.heap.size + 1 + 1 + 1, 5, none⟩ = some (.int .i32 ps))
        (fun i _ => len - (intOf i).toNat)
      case atStart => exact ⟨0, Nat.zero_le _, rfl, below_drewN hb _, HRS.out, ha3, ha4, ha5⟩
      case round =>
        obtain ⟨k, hk, rfl, hbr, hrsr, h3, h4, h5⟩ := hrel
        clear hb hm1 ha1 ha3 ha4 ha5
        by_cases hlt : k < len
        · obtain ⟨b, off, ea, hbb, hcc⟩ := HA.out (by omega)
          subst ea
          have hx : wr.cell? ⟨b, off + k, none⟩ = some (.int .i32 (zs.getD k 0)) := (hbr.cell hbb).trans (hcc k hlt)
          have hy : wr.cell? ⟨w.heap.size, k, none⟩ = some (.int .i32 (zs.getD k 0)) := by rw [hrsr k (by omega)]; simp [rv, hlt]
          obtain ⟨x, hxx⟩ : ∃ x, x = zs.getD k 0 := ⟨_, rfl⟩
          rw [← hxx] at hx hy
          have HRR : Hid (∀ i, i < len + 1 → wr.cell? ⟨w.heap.size, i, none⟩ = some (.int .i32 (rv zs len en i))) := hrsr
          have HBR : Hid (Below w.heap.size w wr) := hbr
          clear hrsr hbr hcc hxx
          have k1 : (k : Int) < (len : Int) := by omega
          have k2 : (k : Int) < ((len + 1 : Nat) : Int) := by omega
          go_wp2
          go_quiet (fail)
          go_wp2
          go_roundw
          case rel => exact ⟨k + 1, by omega, by go_num, below_drewN HBR.out _, HRR.out, h3, h4, h5⟩
          case measure => simp [intOf]; omega
        · have k1 : k = len := by omega
          subst k1
          go_wp2
          go_ret
          exact ⟨rfl, hbr⟩
end Go.Proofs.Ybulkbqii
