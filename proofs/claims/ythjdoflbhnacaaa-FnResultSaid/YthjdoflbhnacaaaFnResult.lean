/- FnResult returns true for every two numbers of type int, changes neither, and what it is handed reads afterwards as before: the statement 'Rows.FnResultSaid', whole.
   Conditions: none (every input of the two types). The frame of the row's step began as the print of the kit's proof-skeleton.mjs; the walk is this session's own. -/
import Derived.Test.YthjdoflbhnacaaaRows
import Derived.Test.YthjdoflbhnacaaaContracts
import Derived.WalkKit
import Derived.ProofKit
import Derived.OpenShut
namespace Go.Proofs.Ythjdoflbhnacaaa.fnResult
open Go.ChangeShapes Go.WideShapes Go.ChangeAt Go.RowKit
set_option linter.unusedVariables false      -- a walk need not use every 'w<i>' (that an integer argument fits its kind)

theorem own : ownKnob Try.prog.godebug = none := by kernel_rfl

/-! ### The walk: the Go text returns true, and memory gets at most new blocks -/
theorem walk (a0 : Int) (a1 : Int) (w0 : (Lit.int .i64 a0).wf = true) (w1 : (Lit.int .i64 a1).wf = true) (w : World) :
    Calls Try.prog 3 #[.int .i64 a0, .int .i64 a1] w fun e w' => e = .returned (.bool true) ∧ Grown w w' := by
  clear w0 w1
  obtain ⟨l0, u0⟩ := parts.rem_bounds a0
  obtain ⟨l1, u1⟩ := parts.rem_bounds a1
  have ho : ∀ w, Calls Try.prog 5 #[.int .i64 0, .int .i64 1] w fun r w' => r = .returned (.tuple #[.bool false, .bool true]) ∧ Grown w w' :=
    fun w => parts.result_at 0 1 false true (by decide) (by decide) w (by decide) (by decide)
  by_cases h : a1.tmod 1000 % 1000 = 0
  · -- nothing is unlike: equal, and similar, since 0 is at most one more than the same parts
    have hr : ∀ w, Calls Try.prog 5 #[.int .i64 (a0.tmod 1000 % 1000), .int .i64 (a1.tmod 1000 % 1000)] w fun r w' => r = .returned (.tuple #[.bool true, .bool true]) ∧ Grown w w' :=
      fun w => parts.result_at _ _ true true (by simp [h]) (by simp [h]; omega) w (by omega) (by omega)
    have hb : (a1.tmod 1000 % 1000 == 0) = true := by simp [h]
    clear h
    go_enter Try.func3, Try.ntmps3
    go_wp2_with (first
      | (go_at_call 5; (with_reducible refine (hr _).mono ?_); rintro e w1 ⟨rfl, hg1⟩)
      | (go_at_call 5; (with_reducible refine (ho _).mono ?_); rintro e w2 ⟨rfl, hg2⟩))
    go_ret
    exact ⟨rfl, parts.grown_trans hg1 hg2⟩
  · -- something is unlike: not equal; whether similar is not asked
    have hr : ∀ w, Calls Try.prog 5 #[.int .i64 (a0.tmod 1000 % 1000), .int .i64 (a1.tmod 1000 % 1000)] w fun r w' => r = .returned (.tuple #[.bool false, .bool (decide (a1.tmod 1000 % 1000 ≤ a0.tmod 1000 % 1000 + 1))]) ∧ Grown w w' :=
      fun w => parts.result_at _ _ false _ (by simp [h]) rfl w (by omega) (by omega)
    have hb : (a1.tmod 1000 % 1000 == 0) = false := by simp [h]
    clear h
    go_enter Try.func3, Try.ntmps3
    go_wp2_with (first
      | (go_at_call 5; (with_reducible refine (hr _).mono ?_); rintro e w1 ⟨rfl, hg1⟩)
      | (go_at_call 5; (with_reducible refine (ho _).mono ?_); rintro e w2 ⟨rfl, hg2⟩))
    go_ret
    exact ⟨rfl, parts.grown_trans hg1 hg2⟩

/-! ### The row's step (as proof-skeleton.mjs of the kit prints it) -/
set_option maxRecDepth 100000 in
theorem lifted (os : Os) (started : os.Started) (H : Type) (enc : TypeId × Value → H) :
    ReturnsInHanded {} Try.checked os 3 .any (Rows.fnResultSpec.pre6 enc Try.prog Try.f3 Rows.fnResultRow.domain false) (Rows.fnResultSpec.post enc Try.prog Try.f3 false true false false) := by
  refine returnsInHanded_of_change (C := Try.checked) own started (by kernel_rfl) Try.func3
    (ChangeSpec.witness6 (enc := enc) (C := Try.checked) false ⟨#[], #[.int .i64 0, .int .i64 0], []⟩ 8 (by kernel_rfl) (by kernel_rfl) (by kernel_rfl) (by kernel_rfl)) ?_
  intro W base args ds gs before hval0 hW hcnd _
  have hval : ∀ (j : Nat) t v, Try.f3.params[j]? = some t → args[j]? = some v → Value.okWide Try.prog W .any base t v := hval0
  have hW' := hW
  obtain ⟨p, q, hA0, hV, rfl, hfz, hnd⟩ := hW
  have hA : DataW.TrodAll enc Try.prog W 0 (fun _ => true) true Try.f3.params.toList args.toList ds p := hA0
  rw [Try.params3] at hA hval
  obtain ⟨v0, vs0, d0, ds0, p0, q0, hargs, rfl, rfl, h0, r0⟩ := trodAll_cons hA
  obtain ⟨v1, vs1, d1, ds1, p1, q1, rfl, rfl, rfl, h1, r1⟩ := trodAll_cons r0
  obtain ⟨rfl, rfl, rfl⟩ := trodAll_nil r1
  obtain rfl : args = #[v0, v1] := by cases args; simp_all
  obtain ⟨rfl, rfl⟩ := trodVars_none hV
  obtain ⟨a0, rfl, rfl, rfl, w0⟩ := open_int Try.underlying3 (hval 0 3 v0 rfl rfl) h0
  obtain ⟨a1, rfl, rfl, rfl, w1⟩ := open_int Try.underlying3 (hval 1 3 v1 rfl rfl) h1
  clear hA0 hval0
  simp only [List.append_nil] at hW'
  refine (walk a0 a1 w0 w1 W).mono fun e W' ⟨he, hg⟩ => ?_
  subst he
  exact ⟨_, rfl, post_of_same (pa := []) (pv := []) hW' (fun _ _ _ => (trodAll_cons_mk (shut_bool Try.underlying4 _) trodAll_mk0)) (fun sp _ => (trodAll_cons_mk (shut_int Try.underlying3 w0) (trodAll_cons_mk (shut_int Try.underlying3 w1) trodAll_mk0))) (fun _ _ => rfl) rfl
    (hg.frame _) hg.2.1 (ok_one (by kernel_rfl) rfl (okWide_bool_mk Try.underlying4 _))⟩

theorem over : Rows.fnResultRow.holds Try.pinned (OpenSpec.ofChange Rows.fnResultSpec) :=
  OpenClaim.holds_of_wide 3 Try.f3 rfl rfl rfl rfl rfl rfl rfl ⟨rfl, rfl, rfl, rfl, rfl⟩ rfl rfl rfl rfl rfl (by kernel_rfl) Try.func3 (by kernel_rfl)
    (of_decide_eq_true (by kernel_rfl)) (by unfold Func.isWrapper; first | (rw [if_pos (by decide +kernel)]; kernel_rfl) | (rw [if_neg (by decide +kernel)]; exact ⟨rfl, rfl⟩))
    (fun os started H enc _ => lifted os started H enc)

/-- ████ THE STATEMENT ████ -/
theorem proved : Rows.FnResultSaid :=
  over
#print axioms proved
end Go.Proofs.Ythjdoflbhnacaaa.fnResult
