/- What the functions under the two statements return is proved here, for every argument named and in every memory: BoolResult and Bool give one same part for true and two unlike parts for false; Equal says whether nothing is unlike; Similar and Result say it, and whether the unlike parts are at most one more than the same ones.
   Conditions: for Similar and Result the number of same parts lies between 0 and 999; for the others none. Memory afterwards is the old memory with at most new blocks. -/
import Derived.Test.YthjdoflbhnacaaaRows
import Derived.WalkKit
import Derived.ProofKit
import Derived.OpenShut
import Derived.Deep.RegionWith
namespace Go.Proofs.Ythjdoflbhnacaaa.parts
open Go.ChangeShapes Go.WideShapes Go.ChangeAt Go.RowKit

/-- New blocks upon new blocks are new blocks. -/
theorem grown_trans {W w1 w2 : World} (h : Grown W w1) (h' : Grown w1 w2) : Grown W w2 :=
  ⟨World.keptBut_trans h.1 h'.1, fun a => (h'.2.1 a).trans (h.2.1 a), Nat.le_trans h.2.2 h'.2.2⟩

/-- Go's remainder by 1000 lies between -999 and 999. -/
theorem rem_bounds (a : Int) : -999 ≤ a.tmod 1000 ∧ a.tmod 1000 ≤ 999 := by
  have h1 := Int.tmod_lt_of_pos a (show (0 : Int) < 1000 by decide)
  have h2 := Int.lt_tmod_of_pos a (show (0 : Int) < 1000 by decide)
  omega

/-- (diff.Result).Equal: its box is one new block. -/
theorem equal_any (a b : Int) (w : World) :
    Calls Try.prog 7 #[.agg #[.int .i64 a, .int .i64 b]] w fun e w' => e = .returned (.bool (b == 0)) ∧ w' = w.alloc (.cells #[.int .i64 a, .int .i64 b] 29 (0, 0)) := by
  go_enter Try.func7, Try.ntmps7
  go_wp2
  go_ret
  exact ⟨rfl, rfl⟩

/-- (diff.Result).Similar, where the sum does not wrap. -/
theorem similar_any (a b : Int) (w : World) (h0 : 0 ≤ a) (h1 : a ≤ 999) :
    Calls Try.prog 8 #[.agg #[.int .i64 a, .int .i64 b]] w fun e w' => e = .returned (.bool (decide (b ≤ a + 1))) ∧ w' = w.alloc (.cells #[.int .i64 a, .int .i64 b] 29 (0, 0)) := by
  go_enter Try.func8, Try.ntmps8
  go_wp2
  go_ret
  exact ⟨rfl, rfl⟩

/-- impl.Result: in whatever order the two loads and the two calls come. -/
theorem result_any (a b : Int) (w : World) (h0 : 0 ≤ a) (h1 : a ≤ 999) :
    Calls Try.prog 5 #[.int .i64 a, .int .i64 b] w fun e w' => e = .returned (.tuple #[.bool (b == 0), .bool (decide (b ≤ a + 1))]) ∧ Grown w w' := by
  go_enter Try.func5, Try.ntmps5
  go_wp2
  go_region_with (first
    | (go_at_call 7; refine (equal_any _ _ _).mono ?_; rintro e w' ⟨rfl, rfl⟩)
    | (go_at_call 8; refine (similar_any _ _ _ h0 h1).mono ?_; rintro e w' ⟨rfl, rfl⟩))
  all_goals go_wp2
  all_goals go_ret2
  all_goals exact ⟨rfl, by repeat (first | exact Grown.refl _ | apply Grown.drew | apply Grown.alloc)⟩

/-- The same, its two answers under names of the caller's own. -/
theorem result_at (a b : Int) (e s : Bool) (he : (b == 0) = e) (hs : decide (b ≤ a + 1) = s) (w : World) (h0 : 0 ≤ a) (h1 : a ≤ 999) :
    Calls Try.prog 5 #[.int .i64 a, .int .i64 b] w fun r w' => r = .returned (.tuple #[.bool e, .bool s]) ∧ Grown w w' := by
  subst he; subst hs
  exact result_any a b w h0 h1

/-- diff.BoolResult. -/
theorem boolResult_true (w : World) :
    Calls Try.prog 9 #[.bool true] w fun e w' => e = .returned (.agg #[.int .i64 1, .int .i64 0]) ∧ Grown w w' := by
  go_enter Try.func9, Try.ntmps9
  go_wp2
  exact bodyPost_ret (v := .agg #[.int .i64 1, .int .i64 0]) (by simp [results, Try.results9, go_sem]) rfl ⟨rfl, by repeat (first | exact Grown.refl _ | apply Grown.drew | apply Grown.alloc)⟩
theorem boolResult_false (w : World) :
    Calls Try.prog 9 #[.bool false] w fun e w' => e = .returned (.agg #[.int .i64 0, .int .i64 2]) ∧ Grown w w' := by
  go_enter Try.func9, Try.ntmps9
  go_wp2
  exact bodyPost_ret (v := .agg #[.int .i64 0, .int .i64 2]) (by simp [results, Try.results9, go_sem]) rfl ⟨rfl, by repeat (first | exact Grown.refl _ | apply Grown.drew | apply Grown.alloc)⟩

/-- impl.Bool. -/
theorem bool_true (w : World) :
    Calls Try.prog 6 #[.bool true] w fun e w' => e = .returned (.tuple #[.int .i64 1, .int .i64 0]) ∧ Grown w w' := by
  go_enter Try.func6, Try.ntmps6
  go_wp2_with (go_at_call 9; refine (boolResult_true _).mono ?_; rintro e w' ⟨rfl, hg⟩)
  go_region
  all_goals go_wp2
  all_goals go_ret2
  all_goals exact ⟨rfl, by repeat (first | exact Grown.refl _ | assumption | apply Grown.drew | apply Grown.alloc)⟩
theorem bool_false (w : World) :
    Calls Try.prog 6 #[.bool false] w fun e w' => e = .returned (.tuple #[.int .i64 0, .int .i64 2]) ∧ Grown w w' := by
  go_enter Try.func6, Try.ntmps6
  go_wp2_with (go_at_call 9; refine (boolResult_false _).mono ?_; rintro e w' ⟨rfl, hg⟩)
  go_region
  all_goals go_wp2
  all_goals go_ret2
  all_goals exact ⟨rfl, by repeat (first | exact Grown.refl _ | assumption | apply Grown.drew | apply Grown.alloc)⟩
end Go.Proofs.Ythjdoflbhnacaaa.parts
