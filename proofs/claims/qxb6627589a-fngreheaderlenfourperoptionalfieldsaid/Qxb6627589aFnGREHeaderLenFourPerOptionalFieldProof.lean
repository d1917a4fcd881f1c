/- The proof of Rows.FnGREHeaderLenFourPerOptionalFieldSaid: the frame by the kit's program, the walk by hand. -/
import Derived.Test.Qxb6627589aRows
import Derived.Test.Qxb6627589aWalks
import Derived.Deep.RegionHeld3
import Derived.WalkKit
import Derived.ProofKit
import Derived.OpenShut
import Derived.ShutString
namespace Go.Proofs.Qxb6627589a.fnGREHeaderLenFourPerOptionalField
open Go.ChangeShapes Go.WideShapes Go.ChangeAt Go.RowKit
open Go.ChangeMaps (open_string shut_string)
set_option linter.unusedVariables false      -- a walk need not use every 'w<i>' (that an integer argument fits its kind)

theorem own : ownKnob Try.prog.godebug = none := by kernel_rfl

/-! ### STEP 1: THE WALK: the Go text returns true. 'Grown w w'': the world has at most new blocks (Derived/RowKit3.lean). Part the cases AHEAD of 'go_enter' where a test parts the walk; take each callee by a contract of your own. -/
theorem len_c (k s : Bool) : lenOf true k s = lenOf false k s + 4 := by cases k <;> cases s <;> decide
theorem len_k (c s : Bool) : lenOf c true s = lenOf c false s + 4 := by cases c <;> cases s <;> decide
theorem len_s (c k : Bool) : lenOf c k true = lenOf c k false + 4 := by cases c <;> cases k <;> decide
set_option maxHeartbeats 1600000 in
theorem walk (a0 : Int) (a1 : Int) (a2 : Bool) (a3 : Int) (a4 : Bool) (a5 : Int) (a6 : Bool) (a7 : Int) (w0 : (Lit.int .u8 a0).wf = true) (w1 : (Lit.int .u16 a1).wf = true) (w3 : (Lit.int .u16 a3).wf = true) (w5 : (Lit.int .u32 a5).wf = true) (w7 : (Lit.int .u32 a7).wf = true) (w : World) :
    Calls Try.prog 3 #[.int .u8 a0, .int .u16 a1, .bool a2, .int .u16 a3, .bool a4, .int .u32 a5, .bool a6, .int .u32 a7] w fun e w' => e = .returned (.bool true) ∧ Grown w w' := by
  have b1 := len_lo a2 a4 a6
  have b2 := len_hi a2 a4 a6
  have c1 := len_lo false a4 a6
  have c2 := len_hi false a4 a6
  have k1 := len_lo a2 false a6
  have k2 := len_hi a2 false a6
  have s1 := len_lo a2 a4 false
  have s2 := len_hi a2 a4 false
  have e0 : lenOf false false false = 4 := by decide
  have e1 : lenOf true a4 a6 = lenOf false a4 a6 + 4 := len_c a4 a6
  have e2 : lenOf a2 true a6 = lenOf a2 false a6 + 4 := len_k a2 a6
  have e3 : lenOf a2 a4 true = lenOf a2 a4 false + 4 := len_s a2 a4
  have g1 : IntKind.i64.wrap (lenOf false a4 a6 + 4) = lenOf false a4 a6 + 4 := by rw [IntKind.wrap_i64]; omega
  have g2 : IntKind.i64.wrap (lenOf a2 false a6 + 4) = lenOf a2 false a6 + 4 := by rw [IntKind.wrap_i64]; omega
  have g3 : IntKind.i64.wrap (lenOf a2 a4 false + 4) = lenOf a2 a4 false + 4 := by rw [IntKind.wrap_i64]; omega
  go_enter Try.func3, Try.ntmps3
  go_wp2_with (first | (go_at_call 5; refine (header_any _ _ _ _ _ _ _ _ _).mono ?_; rintro e w' ⟨rfl, rfl⟩) | (go_at_call 6; refine (len_any _ _ _ _ _ _ _ _ _).mono ?_; rintro e w' ⟨rfl, rfl⟩))
  go_region_held3 (fun w' => w'.cell? ⟨w.heap.size + 4, 0, none⟩ = some (.int .u8 a0) ∧ w'.cell? ⟨w.heap.size + 4, 1, none⟩ = some (.int .u16 a1) ∧ w'.cell? ⟨w.heap.size + 4, 2, none⟩ = some (.bool true) ∧ w'.cell? ⟨w.heap.size + 4, 3, none⟩ = some (.int .u16 a3) ∧ w'.cell? ⟨w.heap.size + 4, 4, none⟩ = some (.bool a4) ∧ w'.cell? ⟨w.heap.size + 4, 5, none⟩ = some (.int .u32 a5) ∧ w'.cell? ⟨w.heap.size + 4, 6, none⟩ = some (.bool a6) ∧ w'.cell? ⟨w.heap.size + 4, 7, none⟩ = some (.int .u32 a7) ∧ w'.cell? ⟨w.heap.size + 5, 0, none⟩ = some (.int .u8 a0) ∧ w'.cell? ⟨w.heap.size + 5, 1, none⟩ = some (.int .u16 a1) ∧ w'.cell? ⟨w.heap.size + 5, 2, none⟩ = some (.bool false) ∧ w'.cell? ⟨w.heap.size + 5, 3, none⟩ = some (.int .u16 a3) ∧ w'.cell? ⟨w.heap.size + 5, 4, none⟩ = some (.bool a4) ∧ w'.cell? ⟨w.heap.size + 5, 5, none⟩ = some (.int .u32 a5) ∧ w'.cell? ⟨w.heap.size + 5, 6, none⟩ = some (.bool a6) ∧ w'.cell? ⟨w.heap.size + 5, 7, none⟩ = some (.int .u32 a7)) (simp [go_sem, World.cell?_alloc_past]) ((go_at_call 6; refine (len_any _ _ _ _ _ _ _ _ _).mono ?_; rintro e w' ⟨rfl, rfl⟩))
  go_wp2
  go_region_held3 (fun w' => w'.cell? ⟨w.heap.size + 8, 0, none⟩ = some (.int .u8 a0) ∧ w'.cell? ⟨w.heap.size + 8, 1, none⟩ = some (.int .u16 a1) ∧ w'.cell? ⟨w.heap.size + 8, 2, none⟩ = some (.bool a2) ∧ w'.cell? ⟨w.heap.size + 8, 3, none⟩ = some (.int .u16 a3) ∧ w'.cell? ⟨w.heap.size + 8, 4, none⟩ = some (.bool true) ∧ w'.cell? ⟨w.heap.size + 8, 5, none⟩ = some (.int .u32 a5) ∧ w'.cell? ⟨w.heap.size + 8, 6, none⟩ = some (.bool a6) ∧ w'.cell? ⟨w.heap.size + 8, 7, none⟩ = some (.int .u32 a7) ∧ w'.cell? ⟨w.heap.size + 9, 0, none⟩ = some (.int .u8 a0) ∧ w'.cell? ⟨w.heap.size + 9, 1, none⟩ = some (.int .u16 a1) ∧ w'.cell? ⟨w.heap.size + 9, 2, none⟩ = some (.bool a2) ∧ w'.cell? ⟨w.heap.size + 9, 3, none⟩ = some (.int .u16 a3) ∧ w'.cell? ⟨w.heap.size + 9, 4, none⟩ = some (.bool false) ∧ w'.cell? ⟨w.heap.size + 9, 5, none⟩ = some (.int .u32 a5) ∧ w'.cell? ⟨w.heap.size + 9, 6, none⟩ = some (.bool a6) ∧ w'.cell? ⟨w.heap.size + 9, 7, none⟩ = some (.int .u32 a7)) (simp [go_sem, World.cell?_alloc_past]) ((go_at_call 6; refine (len_any _ _ _ _ _ _ _ _ _).mono ?_; rintro e w' ⟨rfl, rfl⟩))
  go_wp2
  go_region_held3 (fun w' => w'.cell? ⟨w.heap.size + 12, 0, none⟩ = some (.int .u8 a0) ∧ w'.cell? ⟨w.heap.size + 12, 1, none⟩ = some (.int .u16 a1) ∧ w'.cell? ⟨w.heap.size + 12, 2, none⟩ = some (.bool a2) ∧ w'.cell? ⟨w.heap.size + 12, 3, none⟩ = some (.int .u16 a3) ∧ w'.cell? ⟨w.heap.size + 12, 4, none⟩ = some (.bool a4) ∧ w'.cell? ⟨w.heap.size + 12, 5, none⟩ = some (.int .u32 a5) ∧ w'.cell? ⟨w.heap.size + 12, 6, none⟩ = some (.bool true) ∧ w'.cell? ⟨w.heap.size + 12, 7, none⟩ = some (.int .u32 a7) ∧ w'.cell? ⟨w.heap.size + 13, 0, none⟩ = some (.int .u8 a0) ∧ w'.cell? ⟨w.heap.size + 13, 1, none⟩ = some (.int .u16 a1) ∧ w'.cell? ⟨w.heap.size + 13, 2, none⟩ = some (.bool a2) ∧ w'.cell? ⟨w.heap.size + 13, 3, none⟩ = some (.int .u16 a3) ∧ w'.cell? ⟨w.heap.size + 13, 4, none⟩ = some (.bool a4) ∧ w'.cell? ⟨w.heap.size + 13, 5, none⟩ = some (.int .u32 a5) ∧ w'.cell? ⟨w.heap.size + 13, 6, none⟩ = some (.bool false) ∧ w'.cell? ⟨w.heap.size + 13, 7, none⟩ = some (.int .u32 a7)) (simp [go_sem, World.cell?_alloc_past]) ((go_at_call 6; refine (len_any _ _ _ _ _ _ _ _ _).mono ?_; rintro e w' ⟨rfl, rfl⟩))
  go_wp2_with ((go_at_call 6; refine (len_any _ _ _ _ _ _ _ _ _).mono ?_; rintro e w' ⟨rfl, rfl⟩))
  all_goals
    go_ret
    refine ⟨rfl, ?_⟩
    refine Grown.drew (Grown.drew (Grown.drew ?_))
    iterate 18 refine Grown.alloc ?_ _ _
    first
      | exact Grown.refl w
      | exact Grown.alloc (Grown.refl w) _ _

/-! ### THE ROW's STEP: WRITTEN OUT: LEAVE IT -/
set_option maxRecDepth 100000 in
theorem lifted (os : Os) (started : os.Started) (H : Type) (enc : TypeId × Value → H) :
    ReturnsInHanded {} Try.checked os 3 .any (Rows.fnGREHeaderLenFourPerOptionalFieldSpec.pre6 enc Try.prog Try.f3 Rows.fnGREHeaderLenFourPerOptionalFieldRow.domain false) (Rows.fnGREHeaderLenFourPerOptionalFieldSpec.post enc Try.prog Try.f3 false true false false) := by
  refine returnsInHanded_of_change (C := Try.checked) own started (by kernel_rfl) Try.func3
    (ChangeSpec.witness6 (enc := enc) (C := Try.checked) false ⟨#[], #[.int .u8 0, .int .u16 0, .bool false, .int .u16 0, .bool false, .int .u32 0, .bool false, .int .u32 0], []⟩ 8 (by kernel_rfl) (by kernel_rfl) (by kernel_rfl) (by kernel_rfl)) ?_
  intro W base args ds gs before hval0 hW hcnd _
  have hval : ∀ (j : Nat) t v, Try.f3.params[j]? = some t → args[j]? = some v → Value.okWide Try.prog W .any base t v := hval0
  have hW' := hW
  obtain ⟨p, q, hA0, hV, rfl, hfz, hnd⟩ := hW
  have hA : DataW.TrodAll enc Try.prog W 0 (fun _ => true) true Try.f3.params.toList args.toList ds p := hA0
  rw [Try.params3] at hA hval
  obtain ⟨v0, vs0, d0, ds0, p0, q0, hargs, rfl, rfl, h0, r0⟩ := trodAll_cons hA
  obtain ⟨v1, vs1, d1, ds1, p1, q1, rfl, rfl, rfl, h1, r1⟩ := trodAll_cons r0
  obtain ⟨v2, vs2, d2, ds2, p2, q2, rfl, rfl, rfl, h2, r2⟩ := trodAll_cons r1
  obtain ⟨v3, vs3, d3, ds3, p3, q3, rfl, rfl, rfl, h3, r3⟩ := trodAll_cons r2
  obtain ⟨v4, vs4, d4, ds4, p4, q4, rfl, rfl, rfl, h4, r4⟩ := trodAll_cons r3
  obtain ⟨v5, vs5, d5, ds5, p5, q5, rfl, rfl, rfl, h5, r5⟩ := trodAll_cons r4
  obtain ⟨v6, vs6, d6, ds6, p6, q6, rfl, rfl, rfl, h6, r6⟩ := trodAll_cons r5
  obtain ⟨v7, vs7, d7, ds7, p7, q7, rfl, rfl, rfl, h7, r7⟩ := trodAll_cons r6
  obtain ⟨rfl, rfl, rfl⟩ := trodAll_nil r7
  obtain rfl : args = #[v0, v1, v2, v3, v4, v5, v6, v7] := by cases args; simp_all
  obtain ⟨rfl, rfl⟩ := trodVars_none hV
  obtain ⟨a0, rfl, rfl, rfl, w0⟩ := open_int Try.underlying5 (hval 0 5 v0 rfl rfl) h0
  obtain ⟨a1, rfl, rfl, rfl, w1⟩ := open_int Try.underlying22 (hval 1 22 v1 rfl rfl) h1
  obtain ⟨a2, rfl, rfl, rfl⟩ := open_bool Try.underlying4 (hval 2 4 v2 rfl rfl) h2
  obtain ⟨a3, rfl, rfl, rfl, w3⟩ := open_int Try.underlying22 (hval 3 22 v3 rfl rfl) h3
  obtain ⟨a4, rfl, rfl, rfl⟩ := open_bool Try.underlying4 (hval 4 4 v4 rfl rfl) h4
  obtain ⟨a5, rfl, rfl, rfl, w5⟩ := open_int Try.underlying23 (hval 5 23 v5 rfl rfl) h5
  obtain ⟨a6, rfl, rfl, rfl⟩ := open_bool Try.underlying4 (hval 6 4 v6 rfl rfl) h6
  obtain ⟨a7, rfl, rfl, rfl, w7⟩ := open_int Try.underlying23 (hval 7 23 v7 rfl rfl) h7
  clear hA0 hval0
  simp only [List.append_nil] at hW'
  refine (walk a0 a1 a2 a3 a4 a5 a6 a7 w0 w1 w3 w5 w7 W).mono fun e W' ⟨he, hg⟩ => ?_
  subst he
  exact ⟨_, rfl, post_of_same (pa := []) (pv := []) hW' (fun _ _ _ => (trodAll_cons_mk (shut_bool Try.underlying4 _) trodAll_mk0)) (fun sp _ => (trodAll_cons_mk (shut_int Try.underlying5 w0) (trodAll_cons_mk (shut_int Try.underlying22 w1) (trodAll_cons_mk (shut_bool Try.underlying4 _) (trodAll_cons_mk (shut_int Try.underlying22 w3) (trodAll_cons_mk (shut_bool Try.underlying4 _) (trodAll_cons_mk (shut_int Try.underlying23 w5) (trodAll_cons_mk (shut_bool Try.underlying4 _) (trodAll_cons_mk (shut_int Try.underlying23 w7) trodAll_mk0))))))))) (fun _ _ => rfl) rfl
    (hg.frame _) hg.2.1 (ok_one (by kernel_rfl) rfl (okWide_bool_mk Try.underlying4 _))⟩

theorem over : Rows.fnGREHeaderLenFourPerOptionalFieldRow.holds Try.pinned (OpenSpec.ofChange Rows.fnGREHeaderLenFourPerOptionalFieldSpec) :=
  OpenClaim.holds_of_wide 3 Try.f3 rfl rfl rfl rfl rfl rfl rfl ⟨rfl, rfl, rfl, rfl, rfl⟩ rfl rfl rfl rfl rfl (by kernel_rfl) Try.func3 (by kernel_rfl)
    (of_decide_eq_true (by kernel_rfl)) (by unfold Func.isWrapper; first | (rw [if_pos (by decide +kernel)]; kernel_rfl) | (rw [if_neg (by decide +kernel)]; exact ⟨rfl, rfl⟩))
    (fun os started H enc _ => lifted os started H enc)

/-- ████ THE STATEMENT ████ -/
theorem proved : Rows.FnGREHeaderLenFourPerOptionalFieldSaid :=
  over
#print axioms proved
end Go.Proofs.Qxb6627589a.fnGREHeaderLenFourPerOptionalField
