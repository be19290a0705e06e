import Derived.Test.YbulkbqiiTab
import Derived.Test.YbulkbqiiBuild
import Derived.Test.YbulkbqiiRowWalk
import Derived.StillTailTactics
import Derived.Outline
namespace Go.Proofs.Ybulkbqii
open Go.RowKit
set_option linter.unusedVariables false

theorem Yba.info30 : (Yba.prog.info? 30).map (fun i => (i.zero.isSome, i.size, i.bytes)) = some (true, 19, 64) := by kernel_rfl

theorem make_nodes (len : Nat) (hlen : len ≤ 1024) : ∃ C : Array Value, C.size = (len + 1) * 19 ∧ ∀ w : World, (Instr.makeSlice 24 (.int .i64 ((len : Int) + 1)) (.int .i64 ((len : Int) + 1))).run Yba.prog w = .ok (.slice (some ⟨w.heap.size, 0, none⟩) (len + 1) (len + 1)) (w.alloc (.cells C 30)) := by
  obtain ⟨i, hi, hz⟩ := Option.map_eq_some_iff.1 Yba.info30
  simp only [Prod.mk.injEq] at hz
  obtain ⟨h1, h2, h3⟩ := hz
  obtain ⟨z, hz⟩ := Option.isSome_iff_exists.1 h1
  refine ⟨madeCells z.cells ((len + 1) * 19), size_madeCells _ _, fun w => ?_⟩
  have := run_make (P := Yba.prog) w 24 30 i z Yba.underlying24 hi hz .i64 .i64 ((len : Int) + 1) ((len : Int) + 1) (by omega) (by omega) (by rw [h3]; omega) (by omega)
  rw [this, h2, show ((len : Int) + 1).toNat = len + 1 by omega]

/-- What node i of the table holds. -/
def nodeF (len : Nat) (O A E : Nat → Int) (pick : Int) (i : Nat) : Int × Int × Int := if i < len then ((O i).tmod 17, A i, E i) else (2, wrap32 pick, wrap32 (wrap32 pick + 1))

theorem Yba.mixed : Yba.prog.follows .mixedOrders = true := by kernel_rfl

set_option maxHeartbeats 4000000 in
theorem node_small (a0 : Option Addr) (len cap : Nat) (O A E : Nat → Int) (pick : Int) (w : World) (hlen : len ≤ 1024) (hp0 : 0 ≤ pick) (hp1 : pick < 4294967296)
    (hO : ∀ i, 0 ≤ O i ∧ O i ≤ 255) (hA : ∀ i, -2147483648 ≤ A i ∧ A i ≤ 2147483647) (hE : ∀ i, -2147483648 ≤ E i ∧ E i ≤ 2147483647)
    (ha : 0 < len → ∃ b off, a0 = some ⟨b, off, none⟩ ∧ b < w.heap.size ∧ ∀ i, i < len → w.cell? ⟨b, off + i * 3, none⟩ = some (.int .u8 (O i)) ∧ w.cell? ⟨b, off + i * 3 + 1, none⟩ = some (.int .i32 (A i)) ∧ w.cell? ⟨b, off + i * 3 + 2, none⟩ = some (.int .i32 (E i))) :
    Calls Yba.prog 3 #[.slice a0 len cap, .int .u32 pick] w fun e w' => e = .returned (.bool true) ∧ Below w.heap.size w w' := by
  obtain ⟨C, hC, hmk⟩ := make_nodes len hlen
  have HC : Hid (C.size = (len + 1) * 19) := hC
  have HA : Hid (0 < len → ∃ b off, a0 = some ⟨b, off, none⟩ ∧ b < w.heap.size ∧ ∀ i, i < len → w.cell? ⟨b, off + i * 3, none⟩ = some (.int .u8 (O i)) ∧ w.cell? ⟨b, off + i * 3 + 1, none⟩ = some (.int .i32 (A i)) ∧ w.cell? ⟨b, off + i * 3 + 2, none⟩ = some (.int .i32 (E i))) := ha
  have HO : Hid (∀ i, 0 ≤ O i ∧ O i ≤ 255) := hO
  have HAt : Hid (∀ i, -2147483648 ≤ A i ∧ A i ≤ 2147483647) := hA
  have HE : Hid (∀ i, -2147483648 ≤ E i ∧ E i ≤ 2147483647) := hE
  have hdl : decide ((1024 : Int) < (len : Int)) = false := by simp; omega
  clear hC ha hO hA hE
  go_enter Yba.func3, Yba.ntmps3
  go_wp2_with fail
  go_loopw [6] (fun i wr => ∃ k : Nat, k ≤ len ∧ i = .int .i64 k ∧ Below w.heap.size w wr ∧ wr.heap.size = w.heap.size + 1 ∧ Hid (Tab wr w.heap.size len (nodeF len O A E pick) k)) (fun i _ => len - (intOf i).toNat)
  case atStart => exact ⟨0, Nat.zero_le _, rfl, (Below.refl _ _).alloc (Nat.le_refl _) _, by simp, ⟨C, Deep.blk_alloc_new _ _, HC.out, fun i hi => by omega⟩⟩
  case round =>
    obtain ⟨k, hk, rfl, hbr, hszr, HT⟩ := hrel
    clear hmk HC
    by_cases hlt : k < len
    · obtain ⟨b, off, ea, hbb, hcc⟩ := HA.out (by omega)
      subst ea
      obtain ⟨c0, c1, c2⟩ := hcc k hlt
      have d0 := (hbr.cell hbb).trans c0
      have d1 := (hbr.cell hbb).trans c1
      have d2 := (hbr.cell hbb).trans c2
      have o0 := (HO.out k).1
      have o1 := (HO.out k).2
      have HBR : Hid (Below w.heap.size w wr) := hbr
      have k1 : (k : Int) < (len : Int) := by omega
      have k2 : (k : Int) < (len : Int) + 1 := by omega
      obtain ⟨c, hcb, hcn, hcc'⟩ := HT.out
      have HCB : Hid (wr.heap[w.heap.size]? = some (.cells c 30 (0, 0))) := hcb
      have HCN : Hid (c.size = (len + 1) * 19) := hcn
      have HCC : Hid (∀ i, i < k → c[i * 19 + 13]? = some (.int .u8 (nodeF len O A E pick i).1) ∧ c[i * 19 + 3]? = some (.int .i32 (nodeF len O A E pick i).2.1) ∧ c[i * 19 + 4]? = some (.int .i32 (nodeF len O A E pick i).2.2)) := hcc'
      clear hcb hcn hcc' HT
      clear hcc c0 c1 c2 hbr
      go_wp2_with fail
      go_still_tail 20, Yba.mixed
      refine wpList_store_at rfl 30 (.tmp 44) (.tmp 43) rfl w.heap.size (k * 19) (nodeCells ((O k).tmod 17) (A k) (E k)) (by simp [Act.eval]) (by simp [Act.eval, nodeCells]) 30 c HCB.out Yba.size30 ?_ (nodeCells_one _ _ _) ?_
      · have := HCN.out
        show k * 19 + 19 ≤ c.size
        omega
      obtain ⟨W, hW⟩ : ∃ W, W = wr.drew.setRow w.heap.size (c.toList.take (k * 19) ++ (nodeCells ((O k).tmod 17) (A k) (E k)).toList ++ c.toList.drop (k * 19 + (nodeCells ((O k).tmod 17) (A k) (E k)).size)).toArray := ⟨_, rfl⟩
      show wpList _ _ _ _ _ (wr.drew.setRow w.heap.size _)
      rw [← hW]
      have HW : Hid (Below w.heap.size w W ∧ W.heap.size = w.heap.size + 1 ∧ Tab W w.heap.size len (nodeF len O A E pick) (k + 1)) := by
        subst hW
        refine ⟨below_setRow HBR.out.drew (Nat.le_refl _) _, (by show (wr.heap.modify _ _).size = _; simp [hszr]), ?_⟩
        exact Tab.store (w := wr.drew) HCB.out HCN.out HCC.out (by omega) (by simp [nodeF, hlt])
      clear hW HCB HCN HCC HBR d0 d1 d2
      go_wp2
      go_roundw
      case rel => exact ⟨k + 1, by omega, by go_num, HW.out.1, HW.out.2.1, HW.out.2.2⟩
      case measure => simp [intOf]; omega
    · have k1 : k = len := by omega
      subst k1
      clear HA
      obtain ⟨c, hcb, hcn, hcc'⟩ := HT.out
      have HCB : Hid (wr.heap[w.heap.size]? = some (.cells c 30 (0, 0))) := hcb
      have HCN : Hid (c.size = (k + 1) * 19) := hcn
      have HCC : Hid (∀ i, i < k → c[i * 19 + 13]? = some (.int .u8 (nodeF k O A E pick i).1) ∧ c[i * 19 + 3]? = some (.int .i32 (nodeF k O A E pick i).2.1) ∧ c[i * 19 + 4]? = some (.int .i32 (nodeF k O A E pick i).2.2)) := hcc'
      clear hcb hcn hcc' HT
      obtain ⟨j, hj, hjk⟩ : ∃ j : Nat, wrap64 (pick % ((k : Int) + 1)) = (j : Int) ∧ j ≤ k := by
        have h0 : 0 ≤ pick % ((k : Int) + 1) := Int.emod_nonneg _ (by omega)
        have h1 : pick % ((k : Int) + 1) < (k : Int) + 1 := Int.emod_lt_of_pos _ (by omega)
        refine ⟨(pick % ((k : Int) + 1)).toNat, ?_, by omega⟩
        unfold wrap64
        omega
      obtain ⟨x1, x2, x3, hx⟩ : ∃ x1 x2 x3, nodeF k O A E pick j = (x1, x2, x3) := ⟨_, _, _, rfl⟩
      have hx2 : -2147483648 ≤ x2 ∧ x2 ≤ 2147483647 := by
        have e : x2 = (nodeF k O A E pick j).2.1 := by rw [hx]
        rw [e]
        unfold nodeF
        split
        · exact HAt.out j
        · show -2147483648 ≤ wrap32 pick ∧ wrap32 pick ≤ 2147483647
          unfold wrap32
          omega
      have hx3 : -2147483648 ≤ x3 ∧ x3 ≤ 2147483647 := by
        have e : x3 = (nodeF k O A E pick j).2.2 := by rw [hx]
        rw [e]
        unfold nodeF
        split
        · exact HE.out j
        · show -2147483648 ≤ wrap32 (wrap32 pick + 1) ∧ wrap32 (wrap32 pick + 1) ≤ 2147483647
          unfold wrap32
          omega
      have HX : Hid (nodeF k O A E pick j = (x1, x2, x3)) := hx
      clear hx HAt HE HO
      obtain ⟨M, hM, hM0⟩ := built_nodes w.heap.size (k + 1)
      go_wp2_with (first
        | refine wpList_store_at rfl 30 (.tmp 54) (.tmp 53) rfl w.heap.size (k * 19) (nodeCells 2 (wrap32 pick) (wrap32 (wrap32 pick + 1))) (by simp [Act.eval]) (by simp [Act.eval, nodeCells]) 30 c HCB.out Yba.size30 (by have := HCN.out; show k * 19 + 19 ≤ c.size; omega) (nodeCells_one _ _ _) ?_
        | refine wpList_built rfl 53 #[(0, .tmp 62)] rfl [(0, .slice (some ⟨w.heap.size, 0, none⟩) (k + 1) (k + 1))] (by simp [Act.eval]) M hM ?_)
      refine forget (fun W => Below w.heap.size w W ∧ (W.cell? ⟨w.heap.size, j * 19 + 13, none⟩ = some (.int .u8 x1) ∧ W.cell? ⟨w.heap.size, j * 19 + 3, none⟩ = some (.int .i32 x2) ∧ W.cell? ⟨w.heap.size, j * 19 + 4, none⟩ = some (.int .i32 x3)) ∧
        W.cell? ⟨w.heap.size + 1, 0, none⟩ = some (.slice (some ⟨w.heap.size, 0, none⟩) (k + 1) (k + 1)) ∧ W.cell? ⟨w.heap.size + 1 + 1, 0, none⟩ = some (.int .i32 j) ∧ W.cell? ⟨w.heap.size + 1 + 1, 1, none⟩ = some (.pointer none)) ?_ ?_
      · have hT : Tab (wr.setRow w.heap.size (c.toList.take (k * 19) ++ (nodeCells 2 (wrap32 pick) (wrap32 (wrap32 pick + 1))).toList ++ c.toList.drop (k * 19 + (nodeCells 2 (wrap32 pick) (wrap32 (wrap32 pick + 1))).size)).toArray) w.heap.size k (nodeF k O A E pick) (k + 1) :=
          Tab.store HCB.out HCN.out HCC.out (Nat.le_refl _) (by simp [nodeF])
        rw [List.append_assoc] at hT
        have hlt : w.heap.size < (wr.setRow w.heap.size (c.toList.take (k * 19) ++ ((nodeCells 2 (wrap32 pick) (wrap32 (wrap32 pick + 1))).toList ++ c.toList.drop (k * 19 + (nodeCells 2 (wrap32 pick) (wrap32 (wrap32 pick + 1))).size))).toArray).heap.size := by
          show _ < (wr.heap.modify _ _).size
          simp [hszr]
        have hsz : (wr.setRow w.heap.size (c.toList.take (k * 19) ++ ((nodeCells 2 (wrap32 pick) (wrap32 (wrap32 pick + 1))).toList ++ c.toList.drop (k * 19 + (nodeCells 2 (wrap32 pick) (wrap32 (wrap32 pick + 1))).size))).toArray).heap.size = w.heap.size + 1 := by
          show (wr.heap.modify _ _).size = _
          simp [hszr]
        refine ⟨?_, ?_, ?_, ?_, ?_⟩
        · refine ((below_setRow hbr (Nat.le_refl _) _).alloc ?_ _).alloc ?_ _ <;> simp <;> omega
        · have h2 := (hT.of_block (Deep.blk_alloc_lt _ (.cells M 53) _ hlt))
          have h3 := fun o => (h2.of_block (Deep.blk_alloc_lt _ o _ (by simp; omega))).cells (i := j) (by omega)
          simp only [HX.out] at h3
          exact h3 _
        · simp [go_sem, hsz, hM0]
        · simp [go_sem, hsz]
        · simp [go_sem, hsz]
      · rintro W ⟨hb, ⟨c13, c3, c4⟩, m0, al0, al1⟩
        clear hM hM0 HCB HCN HCC hbr hszr hj HX
        have hjc : (j : Int) < ((k + 1 : Nat) : Int) := by omega
        have hjc' : (j : Int) < (k : Int) + 1 := by omega
        refine (acl_node _ _ _ _ j x1 x2 x3 W hjc hx2.1 hx2.2 hx3.1 hx3.2 al0 al1 m0 c13 c3 c4).mono ?_
        rintro e w' ⟨rfl, n, hw'⟩
        have d13 : w'.cell? ⟨w.heap.size, j * 19 + 13, none⟩ = some (.int .u8 x1) := by rw [hw']; exact c13
        have d3 : w'.cell? ⟨w.heap.size, j * 19 + 3, none⟩ = some (.int .i32 x2) := by rw [hw']; exact c3
        have d4 : w'.cell? ⟨w.heap.size, j * 19 + 4, none⟩ = some (.int .i32 x3) := by rw [hw']; exact c4
        have e0 : w'.cell? ⟨w.heap.size + 1 + 1, 0, none⟩ = some (.int .i32 j) := by rw [hw']; exact al0
        have e1 : w'.cell? ⟨w.heap.size + 1 + 1, 1, none⟩ = some (.pointer none) := by rw [hw']; exact al1
        have hb' : Below w.heap.size w w' := by rw [hw']; exact below_drewN hb n
        clear m0 hw' c13 c3 c4 al0 al1 hb
        go_wp2_with fail
        go_quiet ((go_at_call 6; exact Calls.quiet_of_same (zz_any _ _ _ _)))
        go_wp2
        go_ret
        exact ⟨rfl, below_drewN hb' _⟩
end Go.Proofs.Ybulkbqii
