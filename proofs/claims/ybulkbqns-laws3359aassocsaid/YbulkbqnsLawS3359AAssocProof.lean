import Derived.Test.YbulkbqnsRows
import Derived.WalkKit
import Derived.ProofKit
import Derived.OpenShut
import Derived.ShutString
import Derived.Deep.RegionWith
import Derived.Deep.CutRange
import Derived.Deep.QuietTactic
import Derived.BigQuiet
import Derived.Deep.RegionHeld3
namespace Go.Proofs.Ybulkbqns.lawS3359AAssoc
open Go.ChangeShapes Go.WideShapes Go.ChangeAt Go.RowKit
open Go.ChangeMaps (open_string shut_string)
set_option linter.unusedVariables false      -- a walk need not use every 'w<i>' (that an integer argument fits its kind)

theorem own : ownKnob Yba.prog.godebug = none := by kernel_rfl

theorem Grown.of_trans {w w1 w2 : World} (h : Grown w w1) (g : Grown w1 w2) : Grown w w2 :=
  ⟨World.keptBut_trans h.1 g.1, fun a => (g.2.1 a).trans (h.2.1 a), Nat.le_trans h.2.2 g.2.2⟩

/-- The later value where it is set. -/
def pk (n : Bool) (y x : ByteArray) : ByteArray := if n then y else x

/-- override over strings. -/
theorem over_str (x y : ByteArray) (o n : Bool) (w : World) : Calls Yba.prog 6 #[.agg #[.string x, .bool o], .agg #[.string y, .bool n]] w fun e w' => e = .returned (.agg #[.string (pk n y x), .bool (o || n)]) ∧ w' = ((w.alloc (.cells #[.string x, .bool o] 27)).alloc (.cells #[.string y, .bool n] 27)).alloc (.cells #[.string (pk n y x), .bool (o || n)] 27) := by
  cases n
  · go_enter Yba.func6, Yba.ntmps6
    go_wp2
    (try simp only [Exit.inBlock, Exit.then])
    refine bodyPost_ret_by (v := .agg #[.string x, .bool o]) ?hr rfl ?_
    case hr => simp [results, Yba.results6, go_sem]
    exact ⟨by simp [pk], by simp [pk]⟩
  · go_enter Yba.func6, Yba.ntmps6
    go_wp2
    (try simp only [Exit.inBlock, Exit.then])
    refine bodyPost_ret_by (v := .agg #[.string y, .bool true]) ?hr rfl ?_
    case hr => simp [results, Yba.results6, go_sem]
    exact ⟨by simp [pk], by simp [pk]⟩

/-- zzs3359aeq of two that are the same. -/
theorem eq_same (x : ByteArray) (o : Bool) (w : World) : Calls Yba.prog 7 #[.agg #[.string x, .bool o], .agg #[.string x, .bool o]] w fun e w' => e = .returned (.bool true) ∧ w' = (w.alloc (.cells #[.string x, .bool o] 27)).alloc (.cells #[.string x, .bool o] 27) := by
  go_enter Yba.func7, Yba.ntmps7
  go_wp2
  go_ret
  exact ⟨rfl, rfl⟩

/-- A struct variable of two cells. -/
def At (w : World) (b : Nat) (x : ByteArray) (o : Bool) : Prop := b < w.heap.size ∧ w.cell? ⟨b, 0, none⟩ = some (.string x) ∧ w.cell? ⟨b, 1, none⟩ = some (.bool o)
theorem At.alloc {w : World} {b : Nat} {x : ByteArray} {o : Bool} (h : At w b x o) (c : Obj) : At (w.alloc c) b x o :=
  ⟨by simp; have := h.1; omega, (World.cell?_alloc_past c b 0 h.1).trans h.2.1, (World.cell?_alloc_past c b 1 h.1).trans h.2.2⟩
theorem At.drew {w : World} {b : Nat} {x : ByteArray} {o : Bool} (h : At w b x o) : At w.drew b x o := h
theorem At.new (w : World) (x : ByteArray) (o : Bool) (b : Nat) (hb : b = w.heap.size) : At (w.alloc (.cells #[.string x, .bool o] 27)) b x o := by
  subst hb
  exact ⟨by simp, by simp [World.cell?_alloc_new], by simp [World.cell?_alloc_new]⟩
theorem cell_new {w : World} {b i : Nat} {v : Value} (h : w.cell? ⟨b, i, none⟩ = some v) (c : Obj) : (w.alloc c).cell? ⟨b, i, none⟩ = some v :=
  (World.cell?_alloc_past c b i (World.block_lt_of_cell? _ _ h)).trans h
theorem cell_drew {w : World} {b i : Nat} {v : Value} (h : w.cell? ⟨b, i, none⟩ = some v) : w.drew.cell? ⟨b, i, none⟩ = some v := h

/-- The variables a, b, c in their blocks. -/
def Three (a0 : ByteArray) (a1 : Bool) (a2 : ByteArray) (a3 : Bool) (a4 : ByteArray) (a5 : Bool) (b1 b2 b3 : Nat) (w wx : World) : Prop :=
  At wx b1 a0 a1 ∧ At wx b2 a2 a3 ∧ At wx b3 a4 a5 ∧ Grown w wx
theorem Three.alloc {a0 : ByteArray} {a1 : Bool} {a2 : ByteArray} {a3 : Bool} {a4 : ByteArray} {a5 : Bool} {b1 b2 b3 : Nat} {w wx : World} (h : Three a0 a1 a2 a3 a4 a5 b1 b2 b3 w wx) (c : Array Value) (t : TypeId) : Three a0 a1 a2 a3 a4 a5 b1 b2 b3 w (wx.alloc (.cells c t)) :=
  ⟨h.1.alloc _, h.2.1.alloc _, h.2.2.1.alloc _, h.2.2.2.alloc _ _⟩
theorem Three.drew {a0 : ByteArray} {a1 : Bool} {a2 : ByteArray} {a3 : Bool} {a4 : ByteArray} {a5 : Bool} {b1 b2 b3 : Nat} {w wx : World} (h : Three a0 a1 a2 a3 a4 a5 b1 b2 b3 w wx) : Three a0 a1 a2 a3 a4 a5 b1 b2 b3 w wx.drew :=
  ⟨h.1.drew, h.2.1.drew, h.2.2.1.drew, h.2.2.2.drew⟩
theorem forgetW {P : Program} {c : Code} {Q : Exit → Act → World → Prop} {a : Act} {W : World} (R : World → Prop) (h : R W) (k : ∀ W, R W → c.wp P Q a W) : c.wp P Q a W := k W h

theorem forgetK {K : Act → World → Prop} {a : Act} {W : World} (R : World → Prop) (h : R W) (k : ∀ W, R W → K a W) : K a W := k W h

def leftS (a0 a2 a4 : ByteArray) (a3 a5 : Bool) : ByteArray := pk a5 a4 (pk a3 a2 a0)
theorem right_eq (a0 a2 a4 : ByteArray) (a3 a5 : Bool) : pk (a3 || a5) (pk a5 a4 a2) a0 = leftS a0 a2 a4 a3 a5 := by cases a3 <;> cases a5 <;> rfl

set_option maxHeartbeats 1000000
/-! ### STEP 1: THE WALK: the Go text returns true. 'Grown w w'': the world has at most new blocks (Derived/RowKit3.lean). Part the cases AHEAD of 'go_enter' where a test parts the walk; take each callee by a contract of your own. -/
theorem walk (a0 : ByteArray) (a1 : Bool) (a2 : ByteArray) (a3 : Bool) (a4 : ByteArray) (a5 : Bool) (w0 : a0.size ≤ maxLen) (w2 : a2.size ≤ maxLen) (w4 : a4.size ≤ maxLen) (w : World) :
    Calls Yba.prog 4 #[.string a0, .bool a1, .string a2, .bool a3, .string a4, .bool a5] w fun e w' => e = .returned (.bool true) ∧ Grown w w' := by
  go_enter Yba.func4, Yba.ntmps4
  go_upto_region 4 with fail
  refine forgetW (fun W => Three a0 a1 a2 a3 a4 a5 w.heap.size (w.heap.size + 1) (w.heap.size + 2) w W) ?_ ?_
  · have e1 := (At.new w a0 a1 _ rfl)
    have e2 := (At.new (w.alloc (.cells #[.string a0, .bool a1] 27)) a2 a3 (w.heap.size + 1) (by simp))
    have e3 := (At.new ((w.alloc (.cells #[.string a0, .bool a1] 27)).alloc (.cells #[.string a2, .bool a3] 27)) a4 a5 (w.heap.size + 2) (by simp))
    exact ⟨(e1.alloc _).alloc _, e2.alloc _, e3, (((Grown.refl w).alloc _ _).alloc _ _).alloc _ _⟩
  generalize w.heap.size + 2 = b3
  generalize w.heap.size + 1 = b2
  generalize w.heap.size = b1
  intro W hT
  have HT : Hid (Three a0 a1 a2 a3 a4 a5 b1 b2 b3 w W) := hT
  obtain ⟨⟨l1, d10, d11⟩, ⟨l2, d20, d21⟩, ⟨l3, d30, d31⟩, _⟩ := hT
  go_cut [16] from 19 to 49 (fun l wx => ∃ b, l = .pointer (some ⟨b, 0, none⟩) ∧ At wx b (leftS a0 a2 a4 a3 a5) ((a1 || a3) || a5) ∧ Three a0 a1 a2 a3 a4 a5 b1 b2 b3 w wx)
  case first =>
    go_region_held3 (fun w' => w'.cell? ⟨b1, 0, none⟩ = some (.string a0) ∧ w'.cell? ⟨b1, 1, none⟩ = some (.bool a1) ∧ w'.cell? ⟨b2, 0, none⟩ = some (.string a2) ∧ w'.cell? ⟨b2, 1, none⟩ = some (.bool a3) ∧ w'.cell? ⟨b3, 0, none⟩ = some (.string a4) ∧ w'.cell? ⟨b3, 1, none⟩ = some (.bool a5))
      (refine ⟨?_, ?_, ?_, ?_, ?_, ?_⟩ <;> (repeat (first | with_reducible assumption | with_reducible apply cell_drew | with_reducible apply cell_new)))
      (first | (go_at_call 6; refine (over_str _ _ _ _ _).mono ?_; rintro e w1 ⟨rfl, rfl⟩))
    all_goals
      go_wp2_with fail
      go_meet
      case rel =>
        refine ⟨_, rfl, ?_, ?_⟩
        · unfold leftS
          repeat (first | with_reducible apply At.drew | (with_reducible refine At.new _ _ _ _ ?_; (simp; done)) | with_reducible apply At.alloc)
        · repeat (first | with_reducible exact HT.out | with_reducible apply Three.drew | with_reducible apply Three.alloc)
  case rest =>
    obtain ⟨bl, rfl, hl, hT⟩ := hcut
    have HL : Hid (At wc bl (leftS a0 a2 a4 a3 a5) ((a1 || a3) || a5)) := hl
    clear d10 d11 d20 d21 d30 d31 l1 l2 l3 HT hl
    have HT : Hid (Three a0 a1 a2 a3 a4 a5 b1 b2 b3 w wc) := hT
    obtain ⟨⟨l1, d10, d11⟩, ⟨l2, d20, d21⟩, ⟨l3, d30, d31⟩, _⟩ := hT
    go_upto_region 5 with fail
    go_cut [17] from 33 to 49 (fun l wx => ∃ b, l = .pointer (some ⟨b, 0, none⟩) ∧ At wx b (pk (a3 || a5) (pk a5 a4 a2) a0) (a1 || (a3 || a5)) ∧ At wx bl (leftS a0 a2 a4 a3 a5) ((a1 || a3) || a5) ∧ Three a0 a1 a2 a3 a4 a5 b1 b2 b3 w wx)
    case first =>
      go_region_held3 (fun w' => w'.cell? ⟨b1, 0, none⟩ = some (.string a0) ∧ w'.cell? ⟨b1, 1, none⟩ = some (.bool a1) ∧ w'.cell? ⟨b2, 0, none⟩ = some (.string a2) ∧ w'.cell? ⟨b2, 1, none⟩ = some (.bool a3) ∧ w'.cell? ⟨b3, 0, none⟩ = some (.string a4) ∧ w'.cell? ⟨b3, 1, none⟩ = some (.bool a5))
        (refine ⟨?_, ?_, ?_, ?_, ?_, ?_⟩ <;> (repeat (first | with_reducible assumption | with_reducible apply cell_drew | with_reducible apply cell_new)))
        (first | (go_at_call 6; refine (over_str _ _ _ _ _).mono ?_; rintro e w1 ⟨rfl, rfl⟩))
      all_goals
        go_wp2_with fail
        go_meet
        case rel =>
          refine ⟨_, rfl, ?_, ?_, ?_⟩
          · repeat (first | with_reducible apply At.drew | (with_reducible refine At.new _ _ _ _ ?_; (simp; done)) | with_reducible apply At.alloc)
          · repeat (first | with_reducible exact HL.out | with_reducible apply At.drew | with_reducible apply At.alloc)
          · repeat (first | with_reducible exact HT.out | with_reducible apply Three.drew | with_reducible apply Three.alloc)
    case rest =>
      obtain ⟨br, rfl, hr, hl, hT⟩ := hcut
      rw [right_eq, ← Bool.or_assoc] at hr
      clear d10 d11 d20 d21 d30 d31 l1 l2 l3 HT HL
      have HT : Hid (Three a0 a1 a2 a3 a4 a5 b1 b2 b3 w wc) := hT
      have HL : Hid (At wc bl (leftS a0 a2 a4 a3 a5) ((a1 || a3) || a5)) := hl
      obtain ⟨ll, e0, e1⟩ := hl
      obtain ⟨lr, f0, f1⟩ := hr
      clear hT
      go_wp2_with fail
      refine (eq_same _ _ _).mono ?_
      rintro e w7 ⟨rfl, rfl⟩
      refine forgetK (fun W => At W bl (leftS a0 a2 a4 a3 a5) ((a1 || a3) || a5) ∧ Three a0 a1 a2 a3 a4 a5 b1 b2 b3 w W) ⟨(HL.out.alloc _).alloc _, (HT.out.alloc _ _).alloc _ _⟩ ?_
      clear HT HL ll e0 e1 lr f0 f1
      rintro W8 ⟨hl8, hT8⟩
      have HT : Hid (Three a0 a1 a2 a3 a4 a5 b1 b2 b3 w W8) := hT8
      obtain ⟨⟨l1, d10, d11⟩, ⟨l2, d20, d21⟩, ⟨l3, d30, d31⟩, _⟩ := hT8
      cases a5 with
      | true =>
        rw [show leftS a0 a2 a4 a3 true = a4 from rfl, Bool.or_true] at hl8
        obtain ⟨ll, e0, e1⟩ := hl8
        go_wp2_with fail
        refine (eq_same _ _ _).mono ?_
        rintro e w9 ⟨rfl, rfl⟩
        go_wp2_with fail
        go_ret
        exact ⟨rfl, ((HT.out.2.2.2.alloc _ _).alloc _ _).alloc _ _⟩
      | false =>
        cases a3 with
        | true =>
          rw [show leftS a0 a2 a4 true false = a2 from rfl, Bool.or_false, Bool.or_true] at hl8
          obtain ⟨ll, e0, e1⟩ := hl8
          go_wp2_with fail
          refine (eq_same _ _ _).mono ?_
          rintro e w9 ⟨rfl, rfl⟩
          go_wp2_with fail
          go_ret
          exact ⟨rfl, ((HT.out.2.2.2.alloc _ _).alloc _ _).alloc _ _⟩
        | false =>
          rw [show leftS a0 a2 a4 false false = a0 from rfl, Bool.or_false, Bool.or_false] at hl8
          obtain ⟨ll, e0, e1⟩ := hl8
          go_wp2_with fail
          refine (eq_same _ _ _).mono ?_
          rintro e w9 ⟨rfl, rfl⟩
          go_wp2_with fail
          go_ret
          exact ⟨rfl, ((HT.out.2.2.2.alloc _ _).alloc _ _).alloc _ _⟩

/-! ### THE ROW's STEP: WRITTEN OUT: LEAVE IT -/
set_option maxRecDepth 100000 in
theorem lifted (os : Os) (started : os.Started) (H : Type) (enc : TypeId × Value → H) :
    ReturnsInHanded {} Yba.checked os 4 .any (Rows.lawS3359AAssocSpec.pre6 enc Yba.prog Yba.f4 Rows.lawS3359AAssocRow.domain false) (Rows.lawS3359AAssocSpec.post enc Yba.prog Yba.f4 false true false false) := by
  refine returnsInHanded_of_change (C := Yba.checked) own started (by kernel_rfl) Yba.func4
    (ChangeSpec.witness6 (enc := enc) (C := Yba.checked) false ⟨#[], #[.string ByteArray.empty, .bool false, .string ByteArray.empty, .bool false, .string ByteArray.empty, .bool false], []⟩ 8 (by kernel_rfl) (by kernel_rfl) (by kernel_rfl) (by kernel_rfl)) ?_
  intro W base args ds gs before hval0 hW hcnd _
  have hval : ∀ (j : Nat) t v, Yba.f4.params[j]? = some t → args[j]? = some v → Value.okWide Yba.prog W .any base t v := hval0
  have hW' := hW
  obtain ⟨p, q, hA0, hV, rfl, hfz, hnd⟩ := hW
  have hA : DataW.TrodAll enc Yba.prog W 0 (fun _ => true) true Yba.f4.params.toList args.toList ds p := hA0
  rw [Yba.params4] at hA hval
  obtain ⟨v0, vs0, d0, ds0, p0, q0, hargs, rfl, rfl, h0, r0⟩ := trodAll_cons hA
  obtain ⟨v1, vs1, d1, ds1, p1, q1, rfl, rfl, rfl, h1, r1⟩ := trodAll_cons r0
  obtain ⟨v2, vs2, d2, ds2, p2, q2, rfl, rfl, rfl, h2, r2⟩ := trodAll_cons r1
  obtain ⟨v3, vs3, d3, ds3, p3, q3, rfl, rfl, rfl, h3, r3⟩ := trodAll_cons r2
  obtain ⟨v4, vs4, d4, ds4, p4, q4, rfl, rfl, rfl, h4, r4⟩ := trodAll_cons r3
  obtain ⟨v5, vs5, d5, ds5, p5, q5, rfl, rfl, rfl, h5, r5⟩ := trodAll_cons r4
  obtain ⟨rfl, rfl, rfl⟩ := trodAll_nil r5
  obtain rfl : args = #[v0, v1, v2, v3, v4, v5] := by cases args; simp_all
  obtain ⟨rfl, rfl⟩ := trodVars_none hV
  obtain ⟨a0, rfl, rfl, rfl, w0⟩ := open_string Yba.underlying9 (hval 0 9 v0 rfl rfl) h0
  obtain ⟨a1, rfl, rfl, rfl⟩ := open_bool Yba.underlying4 (hval 1 4 v1 rfl rfl) h1
  obtain ⟨a2, rfl, rfl, rfl, w2⟩ := open_string Yba.underlying9 (hval 2 9 v2 rfl rfl) h2
  obtain ⟨a3, rfl, rfl, rfl⟩ := open_bool Yba.underlying4 (hval 3 4 v3 rfl rfl) h3
  obtain ⟨a4, rfl, rfl, rfl, w4⟩ := open_string Yba.underlying9 (hval 4 9 v4 rfl rfl) h4
  obtain ⟨a5, rfl, rfl, rfl⟩ := open_bool Yba.underlying4 (hval 5 4 v5 rfl rfl) h5
  clear hA0 hval0
  simp only [List.append_nil] at hW'
  refine (walk a0 a1 a2 a3 a4 a5 w0 w2 w4 W).mono fun e W' ⟨he, hg⟩ => ?_
  subst he
  exact ⟨_, rfl, post_of_same (pa := []) (pv := []) hW' (fun _ _ _ => (trodAll_cons_mk (shut_bool Yba.underlying4 _) trodAll_mk0)) (fun sp _ => (trodAll_cons_mk (shut_string Yba.underlying9 w0) (trodAll_cons_mk (shut_bool Yba.underlying4 _) (trodAll_cons_mk (shut_string Yba.underlying9 w2) (trodAll_cons_mk (shut_bool Yba.underlying4 _) (trodAll_cons_mk (shut_string Yba.underlying9 w4) (trodAll_cons_mk (shut_bool Yba.underlying4 _) trodAll_mk0))))))) (fun _ _ => rfl) rfl
    (hg.frame _) hg.2.1 (ok_one (by kernel_rfl) rfl (okWide_bool_mk Yba.underlying4 _))⟩

theorem over : Rows.lawS3359AAssocRow.holds Yba.pinned (OpenSpec.ofChange Rows.lawS3359AAssocSpec) :=
  OpenClaim.holds_of_wide 4 Yba.f4 rfl rfl rfl rfl rfl rfl rfl ⟨rfl, rfl, rfl, rfl, rfl⟩ rfl rfl rfl rfl rfl (by kernel_rfl) Yba.func4 (by kernel_rfl)
    (of_decide_eq_true (by kernel_rfl)) (by unfold Func.isWrapper; first | (rw [if_pos (by decide +kernel)]; kernel_rfl) | (rw [if_neg (by decide +kernel)]; exact ⟨rfl, rfl⟩))
    (fun os started H enc _ => lifted os started H enc)

/-- ████ THE STATEMENT ████ -/
theorem proved : Rows.LawS3359AAssocSaid :=
  over
#print axioms proved
end Go.Proofs.Ybulkbqns.lawS3359AAssoc
