/-
  THE WALKS of cmp.isNaN[int32] (44), cmp.Compare[int32] (35), spansOf$1 (34), endingFrom$1 (48).
-/
import Derived.Test.Qxb6613158aKept
import Derived.Test.Qxb6613158aStable
import Derived.Test.Qxb6613158aShelf
namespace Go.Proofs.Qxb6613158a
open Go.RowKit
set_option linter.unusedSimpArgs false
set_option linter.unusedVariables false

set_option maxHeartbeats 1000000 in
set_option maxRecDepth 100000 in
theorem isNaN32 (x : Int) (w : World) : Calls Try.prog 44 #[.int .i32 x] w fun e w' => e = .returned (.bool false) ∧ w' = w := by
  go_enter Try.func44, Try.ntmps44
  go_wp2
  go_ret
  exact ⟨by simp, rfl⟩

set_option maxHeartbeats 1000000 in
set_option maxRecDepth 100000 in
theorem compare32 (x y : Int) (w : World) : Calls Try.prog 35 #[.int .i32 x, .int .i32 y] w fun e w' => e = .returned (.int .i64 (Lib.compareInt x y)) ∧ w' = w := by
  have h1 := isNaN32 x
  have h2 := isNaN32 y
  by_cases a : x < y
  · go_enter Try.func35, Try.ntmps35
    go_wp2_with (go_at_call 44; first | (refine (h1 _).mono ?_; rintro _ _ ⟨rfl, rfl⟩) | (refine (h2 _).mono ?_; rintro _ _ ⟨rfl, rfl⟩))
    go_ret
    refine ⟨?_, rfl⟩
    unfold Lib.compareInt
    rw [if_pos (by omega)]
    rfl
  · by_cases b : y < x
    · go_enter Try.func35, Try.ntmps35
      go_wp2_with (go_at_call 44; first | (refine (h1 _).mono ?_; rintro _ _ ⟨rfl, rfl⟩) | (refine (h2 _).mono ?_; rintro _ _ ⟨rfl, rfl⟩))
      go_ret
      refine ⟨?_, rfl⟩
      unfold Lib.compareInt
      rw [if_neg (by omega), if_pos (by omega)]
      rfl
    · go_enter Try.func35, Try.ntmps35
      go_wp2_with (go_at_call 44; first | (refine (h1 _).mono ?_; rintro _ _ ⟨rfl, rfl⟩) | (refine (h2 _).mono ?_; rintro _ _ ⟨rfl, rfl⟩))
      go_ret
      refine ⟨?_, rfl⟩
      unfold Lib.compareInt
      rw [if_neg (by omega), if_neg (by omega)]
      rfl

set_option maxHeartbeats 1000000 in
set_option maxRecDepth 100000 in
/-- spansOf$1: two blocks are laid. -/
theorem closure34 (a b c d : Int) (W : World) : Calls Try.prog 34 #[.agg #[.int .i32 a, .int .i32 b], .agg #[.int .i32 c, .int .i32 d]] W fun e w' => e = .returned (.int .i64 (Lib.compareInt a c)) ∧ w' = (W.alloc (.cells #[.int .i32 a, .int .i32 b] 85)).alloc (.cells #[.int .i32 c, .int .i32 d] 85) := by
  have hcon := fun W' => compare32 a c W'
  generalize Lib.compareInt a c = r at hcon ⊢
  go_enter Try.func34, Try.ntmps34
  go_wp2_with (go_at_call 35; refine (hcon _).mono ?_; rintro _ _ ⟨rfl, rfl⟩)
  go_ret
  exact ⟨rfl, rfl⟩

set_option maxHeartbeats 1000000 in
set_option maxRecDepth 100000 in
theorem closure48 (a b c : Int) (W : World) : Calls Try.prog 48 #[.agg #[.int .i32 a, .int .i32 b], .int .i32 c] W fun e w' => e = .returned (.int .i64 (Lib.compareInt b c)) ∧ Kept noS W w' := by
  have hcon := fun W' => compare32 b c W'
  generalize Lib.compareInt b c = r at hcon ⊢
  go_enter Try.func48, Try.ntmps48
  go_wp2_with (go_at_call 35; refine (hcon _).mono ?_; rintro _ _ ⟨rfl, rfl⟩)
  go_ret
  exact ⟨rfl, (Kept.refl _ _).alloc _⟩
end Go.Proofs.Qxb6613158a
