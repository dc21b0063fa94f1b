/- FnBool returns true for true and for false, and what it is handed reads afterwards as before: the statement 'Rows.FnBoolSaid', whole.
   Conditions: none (both inputs of type bool). The frame of the row's step began as the print of the kit's proof-skeleton.mjs; the walk is this session's own. -/
import Derived.Test.YthjdoflbhnacaaaRows
import Derived.Test.YthjdoflbhnacaaaContracts
import Derived.WalkKit
import Derived.ProofKit
import Derived.OpenShut
namespace Go.Proofs.Ythjdoflbhnacaaa.fnBool
open Go.ChangeShapes Go.WideShapes Go.ChangeAt Go.RowKit
set_option linter.unusedVariables false      -- a walk need not use every 'w<i>' (that an integer argument fits its kind)

theorem own : ownKnob Try.prog.godebug = none := by kernel_rfl

/-! ### The walk: the Go text returns true, and memory gets at most new blocks -/
theorem one (w : World) : Calls Try.prog 5 #[.int .i64 1, .int .i64 0] w fun r w' => r = .returned (.tuple #[.bool true, .bool true]) ∧ Grown w w' :=
  parts.result_at 1 0 true true (by decide) (by decide) w (by decide) (by decide)
theorem two (w : World) : Calls Try.prog 5 #[.int .i64 0, .int .i64 2] w fun r w' => r = .returned (.tuple #[.bool false, .bool false]) ∧ Grown w w' :=
  parts.result_at 0 2 false false (by decide) (by decide) w (by decide) (by decide)
theorem walk (a0 : Bool) (w : World) :
    Calls Try.prog 4 #[.bool a0] w fun e w' => e = .returned (.bool true) ∧ Grown w w' := by
  cases a0
  · go_enter Try.func4, Try.ntmps4
    go_wp2_with (first
      | (go_at_call 6; (with_reducible refine (parts.bool_false _).mono ?_); rintro e w1 ⟨rfl, hg1⟩)
      | (go_at_call 5; (with_reducible refine (two _).mono ?_); rintro e w2 ⟨rfl, hg2⟩)
      | (go_at_call 6; (with_reducible refine (parts.bool_true _).mono ?_); rintro e w3 ⟨rfl, hg3⟩)
      | (go_at_call 5; (with_reducible refine (one _).mono ?_); rintro e w4 ⟨rfl, hg4⟩))
    go_ret
    exact ⟨rfl, parts.grown_trans (parts.grown_trans hg1 hg2) (parts.grown_trans hg3 hg4)⟩
  · go_enter Try.func4, Try.ntmps4
    go_wp2_with (first
      | (go_at_call 6; (with_reducible refine (parts.bool_true _).mono ?_); rintro e w1 ⟨rfl, hg1⟩)
      | (go_at_call 5; (with_reducible refine (one _).mono ?_); rintro e w1 ⟨rfl, hg2⟩))
    go_ret
    refine ⟨rfl, ?_⟩
    repeat (first | exact Grown.refl _ | assumption | (refine parts.grown_trans ?_ (by assumption)))

/-! ### The row's step (as proof-skeleton.mjs of the kit prints it) -/
set_option maxRecDepth 100000 in
theorem lifted (os : Os) (started : os.Started) (H : Type) (enc : TypeId × Value → H) :
    ReturnsInHanded {} Try.checked os 4 .any (Rows.fnBoolSpec.pre6 enc Try.prog Try.f4 Rows.fnBoolRow.domain false) (Rows.fnBoolSpec.post enc Try.prog Try.f4 false true false false) := by
  refine returnsInHanded_of_change (C := Try.checked) own started (by kernel_rfl) Try.func4
    (ChangeSpec.witness6 (enc := enc) (C := Try.checked) false ⟨#[], #[.bool false], []⟩ 8 (by kernel_rfl) (by kernel_rfl) (by kernel_rfl) (by kernel_rfl)) ?_
  intro W base args ds gs before hval0 hW hcnd _
  have hval : ∀ (j : Nat) t v, Try.f4.params[j]? = some t → args[j]? = some v → Value.okWide Try.prog W .any base t v := hval0
  have hW' := hW
  obtain ⟨p, q, hA0, hV, rfl, hfz, hnd⟩ := hW
  have hA : DataW.TrodAll enc Try.prog W 0 (fun _ => true) true Try.f4.params.toList args.toList ds p := hA0
  rw [Try.params4] at hA hval
  obtain ⟨v0, vs0, d0, ds0, p0, q0, hargs, rfl, rfl, h0, r0⟩ := trodAll_cons hA
  obtain ⟨rfl, rfl, rfl⟩ := trodAll_nil r0
  obtain rfl : args = #[v0] := by cases args; simp_all
  obtain ⟨rfl, rfl⟩ := trodVars_none hV
  obtain ⟨a0, rfl, rfl, rfl⟩ := open_bool Try.underlying4 (hval 0 4 v0 rfl rfl) h0
  clear hA0 hval0
  simp only [List.append_nil] at hW'
  refine (walk a0 W).mono fun e W' ⟨he, hg⟩ => ?_
  subst he
  exact ⟨_, rfl, post_of_same (pa := []) (pv := []) hW' (fun _ _ _ => (trodAll_cons_mk (shut_bool Try.underlying4 _) trodAll_mk0)) (fun sp _ => (trodAll_cons_mk (shut_bool Try.underlying4 _) trodAll_mk0)) (fun _ _ => rfl) rfl
    (hg.frame _) hg.2.1 (ok_one (by kernel_rfl) rfl (okWide_bool_mk Try.underlying4 _))⟩

theorem over : Rows.fnBoolRow.holds Try.pinned (OpenSpec.ofChange Rows.fnBoolSpec) :=
  OpenClaim.holds_of_wide 4 Try.f4 rfl rfl rfl rfl rfl rfl rfl ⟨rfl, rfl, rfl, rfl, rfl⟩ rfl rfl rfl rfl rfl (by kernel_rfl) Try.func4 (by kernel_rfl)
    (of_decide_eq_true (by kernel_rfl)) (by unfold Func.isWrapper; first | (rw [if_pos (by decide +kernel)]; kernel_rfl) | (rw [if_neg (by decide +kernel)]; exact ⟨rfl, rfl⟩))
    (fun os started H enc _ => lifted os started H enc)

/-- ████ THE STATEMENT ████ -/
theorem proved : Rows.FnBoolSaid :=
  over
#print axioms proved
end Go.Proofs.Ythjdoflbhnacaaa.fnBool
