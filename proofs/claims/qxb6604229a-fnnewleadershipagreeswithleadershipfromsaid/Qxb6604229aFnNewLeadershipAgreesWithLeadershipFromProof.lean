/-
  The proof of 'Rows.FnNewLeadershipAgreesWithLeadershipFromSaid', over the shell that the seat gives; the walk takes the shims by the contracts of Qxb6604229aLead.lean.
-/
import Derived.Test.Qxb6604229aRows
import Derived.Test.Qxb6604229aLead
import Derived.WalkKit
import Derived.ProofKit
import Derived.OpenShut
import Derived.ShutString
namespace Go.Proofs.Qxb6604229a.fnNewLeadershipAgreesWithLeadershipFrom
open Go.ChangeShapes Go.WideShapes Go.ChangeAt Go.RowKit
open Go.ChangeMaps (open_string shut_string)
set_option linter.unusedVariables false      -- a walk need not use every 'w<i>' (that an integer argument fits its kind)

theorem own : ownKnob Try.prog.godebug = none := by kernel_rfl

/-! ### STEP 1: THE WALK: the Go text returns true. 'Grown w w'': the world has at most new blocks (Derived/RowKit3.lean). Part the cases AHEAD of 'go_enter' where a test parts the walk; take each callee by a contract of your own. -/
set_option maxHeartbeats 800000 in
theorem walk (a0 : Int) (a1 : Int) (a2 : Bool) (w0 : (Lit.int .i64 a0).wf = true) (w1 : (Lit.int .i64 a1).wf = true) (w : World) :
    Calls Try.prog 3 #[.int .i64 a0, .int .i64 a1, .bool a2] w fun e w' => e = .returned (.bool true) ∧ Grown w w' := by
  by_cases h : a0 = -1
  · subst h
    cases a2
    · have C : Hid (∀ w, Calls Try.prog 6 #[.int .i64 (-1), .int .i64 a1, .bool false] w fun e w' => e = .returned (.agg #[.int .i64 0, .bool false, .int .i64 0, .bool false]) ∧ ∃ c1 c2 c3 : Array Value, w' = ((w.alloc (.cells c1 24)).alloc (.cells c2 24)).alloc (.cells c3 24)) := fun w => zzNew_any (-1) a1 false _ _ _ rfl rfl rfl w
      go_enter Try.func3, Try.ntmps3
      go_wp2_with (go_at_call 6; refine (C.out _).mono ?_; rintro e w' ⟨rfl, c1, c2, c3, rfl⟩)
      refine (zzFrom_any _ _ 0 0 false false _ (by exact (.inl ⟨rfl, rfl, rfl⟩)) (by exact (.inl ⟨rfl, rfl, rfl⟩))).mono ?_
      rintro e w' ⟨rfl, d1, d2, d3, rfl⟩
      go_wp2
      go_ret
      exact ⟨rfl, by repeat (first | exact Grown.refl _ | apply Grown.drew | apply Grown.alloc)⟩
    · have C : Hid (∀ w, Calls Try.prog 6 #[.int .i64 (-1), .int .i64 a1, .bool true] w fun e w' => e = .returned (.agg #[.int .i64 0, .bool false, .int .i64 a1, .bool true]) ∧ ∃ c1 c2 c3 : Array Value, w' = ((w.alloc (.cells c1 24)).alloc (.cells c2 24)).alloc (.cells c3 24)) := fun w => zzNew_any (-1) a1 true _ _ _ rfl rfl rfl w
      go_enter Try.func3, Try.ntmps3
      go_wp2_with (go_at_call 6; refine (C.out _).mono ?_; rintro e w' ⟨rfl, c1, c2, c3, rfl⟩)
      refine (zzFrom_any _ _ 0 a1 false true _ (by exact (.inl ⟨rfl, rfl, rfl⟩)) (by exact (.inr ⟨w.heap.size + 1, 0, rfl, rfl, by simp <;> omega, by simp [go_sem]⟩))).mono ?_
      rintro e w' ⟨rfl, d1, d2, d3, rfl⟩
      go_wp2
      go_ret
      exact ⟨rfl, by repeat (first | exact Grown.refl _ | apply Grown.drew | apply Grown.alloc)⟩
  · have h' : (a0 == -1) = false := by simpa using h
    cases a2
    · have C : Hid (∀ w, Calls Try.prog 6 #[.int .i64 a0, .int .i64 a1, .bool false] w fun e w' => e = .returned (.agg #[.int .i64 a0, .bool true, .int .i64 0, .bool false]) ∧ ∃ c1 c2 c3 : Array Value, w' = ((w.alloc (.cells c1 24)).alloc (.cells c2 24)).alloc (.cells c3 24)) := fun w => zzNew_any a0 a1 false _ _ _ (by simp [h]) (by simp [h]) rfl w
      go_enter Try.func3, Try.ntmps3
      go_wp2_with (go_at_call 6; refine (C.out _).mono ?_; rintro e w' ⟨rfl, c1, c2, c3, rfl⟩)
      refine (zzFrom_any _ _ a0 0 true false _ (by exact (.inr ⟨w.heap.size, 0, rfl, rfl, by simp <;> omega, by simp [go_sem]⟩)) (by exact (.inl ⟨rfl, rfl, rfl⟩))).mono ?_
      rintro e w' ⟨rfl, d1, d2, d3, rfl⟩
      go_wp2
      go_ret
      exact ⟨rfl, by repeat (first | exact Grown.refl _ | apply Grown.drew | apply Grown.alloc)⟩
    · have C : Hid (∀ w, Calls Try.prog 6 #[.int .i64 a0, .int .i64 a1, .bool true] w fun e w' => e = .returned (.agg #[.int .i64 a0, .bool true, .int .i64 a1, .bool true]) ∧ ∃ c1 c2 c3 : Array Value, w' = ((w.alloc (.cells c1 24)).alloc (.cells c2 24)).alloc (.cells c3 24)) := fun w => zzNew_any a0 a1 true _ _ _ (by simp [h]) (by simp [h]) rfl w
      go_enter Try.func3, Try.ntmps3
      go_wp2_with (go_at_call 6; refine (C.out _).mono ?_; rintro e w' ⟨rfl, c1, c2, c3, rfl⟩)
      refine (zzFrom_any _ _ a0 a1 true true _ (by exact (.inr ⟨w.heap.size, 0, rfl, rfl, by simp <;> omega, by simp [go_sem]⟩)) (by exact (.inr ⟨w.heap.size + 1, 0, rfl, rfl, by simp <;> omega, by simp [go_sem]⟩))).mono ?_
      rintro e w' ⟨rfl, d1, d2, d3, rfl⟩
      go_wp2
      go_ret
      exact ⟨rfl, by repeat (first | exact Grown.refl _ | apply Grown.drew | apply Grown.alloc)⟩

/-! ### THE ROW's STEP: WRITTEN OUT: LEAVE IT -/
set_option maxRecDepth 100000 in
theorem lifted (os : Os) (started : os.Started) (H : Type) (enc : TypeId × Value → H) :
    ReturnsInHanded {} Try.checked os 3 .any (Rows.fnNewLeadershipAgreesWithLeadershipFromSpec.pre6 enc Try.prog Try.f3 Rows.fnNewLeadershipAgreesWithLeadershipFromRow.domain false) (Rows.fnNewLeadershipAgreesWithLeadershipFromSpec.post enc Try.prog Try.f3 false true false false) := by
  refine returnsInHanded_of_change (C := Try.checked) own started (by kernel_rfl) Try.func3
    (ChangeSpec.witness6 (enc := enc) (C := Try.checked) false ⟨#[], #[.int .i64 0, .int .i64 0, .bool false], []⟩ 8 (by kernel_rfl) (by kernel_rfl) (by kernel_rfl) (by kernel_rfl)) ?_
  intro W base args ds gs before hval0 hW hcnd _
  have hval : ∀ (j : Nat) t v, Try.f3.params[j]? = some t → args[j]? = some v → Value.okWide Try.prog W .any base t v := hval0
  have hW' := hW
  obtain ⟨p, q, hA0, hV, rfl, hfz, hnd⟩ := hW
  have hA : DataW.TrodAll enc Try.prog W 0 (fun _ => true) true Try.f3.params.toList args.toList ds p := hA0
  rw [Try.params3] at hA hval
  obtain ⟨v0, vs0, d0, ds0, p0, q0, hargs, rfl, rfl, h0, r0⟩ := trodAll_cons hA
  obtain ⟨v1, vs1, d1, ds1, p1, q1, rfl, rfl, rfl, h1, r1⟩ := trodAll_cons r0
  obtain ⟨v2, vs2, d2, ds2, p2, q2, rfl, rfl, rfl, h2, r2⟩ := trodAll_cons r1
  obtain ⟨rfl, rfl, rfl⟩ := trodAll_nil r2
  obtain rfl : args = #[v0, v1, v2] := by cases args; simp_all
  obtain ⟨rfl, rfl⟩ := trodVars_none hV
  obtain ⟨a0, rfl, rfl, rfl, w0⟩ := open_int Try.underlying3 (hval 0 3 v0 rfl rfl) h0
  obtain ⟨a1, rfl, rfl, rfl, w1⟩ := open_int Try.underlying3 (hval 1 3 v1 rfl rfl) h1
  obtain ⟨a2, rfl, rfl, rfl⟩ := open_bool Try.underlying4 (hval 2 4 v2 rfl rfl) h2
  clear hA0 hval0
  simp only [List.append_nil] at hW'
  refine (walk a0 a1 a2 w0 w1 W).mono fun e W' ⟨he, hg⟩ => ?_
  subst he
  exact ⟨_, rfl, post_of_same (pa := []) (pv := []) hW' (fun _ _ _ => (trodAll_cons_mk (shut_bool Try.underlying4 _) trodAll_mk0)) (fun sp _ => (trodAll_cons_mk (shut_int Try.underlying3 w0) (trodAll_cons_mk (shut_int Try.underlying3 w1) (trodAll_cons_mk (shut_bool Try.underlying4 _) trodAll_mk0)))) (fun _ _ => rfl) rfl
    (hg.frame _) hg.2.1 (ok_one (by kernel_rfl) rfl (okWide_bool_mk Try.underlying4 _))⟩

theorem over : Rows.fnNewLeadershipAgreesWithLeadershipFromRow.holds Try.pinned (OpenSpec.ofChange Rows.fnNewLeadershipAgreesWithLeadershipFromSpec) :=
  OpenClaim.holds_of_wide 3 Try.f3 rfl rfl rfl rfl rfl rfl rfl ⟨rfl, rfl, rfl, rfl, rfl⟩ rfl rfl rfl rfl rfl (by kernel_rfl) Try.func3 (by kernel_rfl)
    (of_decide_eq_true (by kernel_rfl)) (by unfold Func.isWrapper; first | (rw [if_pos (by decide +kernel)]; kernel_rfl) | (rw [if_neg (by decide +kernel)]; exact ⟨rfl, rfl⟩))
    (fun os started H enc _ => lifted os started H enc)

/-- ████ THE STATEMENT ████ -/
theorem proved : Rows.FnNewLeadershipAgreesWithLeadershipFromSaid :=
  over
#print axioms proved
end Go.Proofs.Qxb6604229a.fnNewLeadershipAgreesWithLeadershipFrom
