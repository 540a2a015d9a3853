/-
  THE WALKS of slices.stableCmpFunc (28) and slices.SortStableFunc (22) at the imports' pointers.
-/
import Derived.Test.Qxb6613158aMerge
namespace Go.Proofs.Qxb6613158a
open Go.RowKit
set_option linter.unusedSimpArgs false
set_option linter.unusedVariables false
variable {w0 W W' : World} {g cap n : Nat} {F0 F : Nat → Option Addr} {bx : Value}

set_option maxHeartbeats 1500000 in
set_option maxRecDepth 100000 in
theorem stable_any (cd : Nat) (w : World) (hC : CmpOk w0 g n F0 bx) (hS : SW w0 g cap n F0 w) (hn : n ≤ cap) (hm : n ≤ 1048576) :
    Calls Try.prog 28 #[.slice (some ⟨g, 0, none⟩) n cd, .int .i64 n, .func (.func 23) #[] #[bx]] w fun e w' => e = .returned (.tuple #[]) ∧ SW w0 g cap n F0 w' := by
  have HS : Hid _ := hS
  have HC : Hid _ := hC
  clear hS hC
  go_enter Try.func28, Try.ntmps28
  go_wp2
  go_loopg [7, 8] n (fun gk x y wr => ∃ a b : Nat, x = .int .i64 a ∧ y = .int .i64 b ∧ a + 20 ≤ b ∧ b ≤ a + 20 ∧ a ≤ n ∧ n - a ≤ gk ∧ Hid (SW w0 g cap n F0 wr))
  case atStart => exact ⟨0, 20, rfl, rfl, by omega, by omega, by omega, by omega, HS⟩
  case round =>
    clear HS
    obtain ⟨a, b, rfl, rfl, hab, hab', han, hgk, HS⟩ := hrel
    by_cases hlt : b ≤ n
    · go_wp2_with (go_at_call 37; refine (insSort_any a b cd _ HC.out HS.out hn hm (by omega) (by omega)).mono ?_; rintro _ w2 ⟨rfl, hS2⟩)
      have HS2 : Hid _ := hS2
      clear hS2 HS
      go_wp2
      go_roundg (n - b)
      case measure => omega
      case rel => exact ⟨b, b + 20, rfl, by go_num, by omega, by omega, by omega, by omega, HS2⟩
    · go_wp2_with (go_at_call 37; refine (insSort_any a n cd _ HC.out HS.out hn hm (by omega) (by omega)).mono ?_; rintro _ w2 ⟨rfl, hS2⟩)
      have HS2 : Hid _ := hS2
      clear hS2 HS
      go_wp2
      go_loopg [6, 7, 8, 9] n (fun gk x y z u wr => ∃ bs : Nat, x = .int .i64 bs ∧ 20 ≤ bs ∧ bs ≤ 2097152 ∧ n - bs ≤ gk ∧ Hid (SW w0 g cap n F0 wr))
      case atStart => exact ⟨20, rfl, by omega, by omega, by omega, HS2⟩
      case round =>
        clear HS2
        obtain ⟨bs, rfl, hbs, hbs2, hgk2, HS⟩ := hrel
        by_cases hlt2 : bs < n
        · go_wp2
          go_loopg [7, 8] n (fun gk x y wr => ∃ a b : Nat, x = .int .i64 a ∧ y = .int .i64 b ∧ a + 2 * bs ≤ b ∧ b ≤ a + 2 * bs ∧ a ≤ n ∧ n - a ≤ gk ∧ Hid (SW w0 g cap n F0 wr))
          case atStart => exact ⟨0, 2 * bs, rfl, by go_num, by omega, by omega, by omega, by omega, HS⟩
          case round =>
            clear HS
            obtain ⟨a2, b2, rfl, rfl, hab2, hab2', han2, hgk3, HS⟩ := hrel
            obtain ⟨mm, hx⟩ : ∃ mm : Nat, (a2 : Int) + (bs : Int) = (mm : Int) := ⟨a2 + bs, by omega⟩
            by_cases hlt3 : b2 ≤ n
            · go_wp2_with (go_at_call 38; refine (symMerge_any cd HC.out hn hm n a2 mm b2 _ (by omega) (by omega) (by omega) (by omega) HS.out).mono ?_; rintro _ w2 ⟨rfl, hS2⟩)
              have HS2 : Hid _ := hS2
              clear hS2 HS
              go_wp2
              go_roundg (n - b2)
              case measure => omega
              case rel => exact ⟨b2, b2 + 2 * bs, rfl, by go_num, by omega, by omega, by omega, by omega, HS2⟩
            · by_cases hlt4 : a2 + bs < n
              · have hz : (mm : Int) < (n : Int) := by omega
                go_wp2_with (go_at_call 38; refine (symMerge_any cd HC.out hn hm n a2 mm n _ (by omega) (by omega) (by omega) (by omega) HS.out).mono ?_; rintro _ w2 ⟨rfl, hS2⟩)
                have HS2 : Hid _ := hS2
                clear hS2 HS
                go_wp2
                go_roundg (n - 2 * bs)
                case measure => omega
                case rel => exact ⟨2 * bs, by first | go_num | (congr 1; omega), by omega, by omega, by omega, HS2⟩
              · have hz : ¬ (mm : Int) < (n : Int) := by omega
                go_wp2
                go_roundg (n - 2 * bs)
                case measure => omega
                case rel => exact ⟨2 * bs, by first | go_num | (congr 1; omega), by omega, by omega, by omega, HS⟩
        · go_wp2
          go_end0
          exact ⟨rfl, HS.out⟩

set_option maxHeartbeats 1000000 in
set_option maxRecDepth 100000 in
theorem sortStable_any (cd : Nat) (w : World) (hC : CmpOk w0 g n F0 bx) (hS : SW w0 g cap n F0 w) (hn : n ≤ cap) (hm : n ≤ 1048576) :
    Calls Try.prog 22 #[.slice (some ⟨g, 0, none⟩) n cd, .func (.func 23) #[] #[bx]] w fun e w' => e = .returned (.tuple #[]) ∧ SW w0 g cap n F0 w' := by
  go_enter Try.func22, Try.ntmps22
  go_wp2_with (go_at_call 28; refine (stable_any cd _ hC hS hn hm).mono ?_; rintro _ w2 ⟨rfl, hS2⟩)
  go_end0
  exact ⟨rfl, hS2⟩

set_option maxHeartbeats 1000000 in
set_option maxRecDepth 100000 in
theorem insSort_none (d : Value) (w : World) :
    Calls Try.prog 37 #[.slice none 0 0, .int .i64 0, .int .i64 0, d] w fun e w' => e = .returned (.tuple #[]) ∧ w' = w := by
  go_enter Try.func37, Try.ntmps37
  go_wp2
  go_loopw [8] (fun z wr => z = .int .i64 1 ∧ wr = w) (fun _ _ => 0)
  case atStart => exact ⟨rfl, rfl⟩
  case round =>
    obtain ⟨rfl, rfl⟩ := hrel
    go_wp2
    go_end0
    exact ⟨rfl, rfl⟩

set_option maxHeartbeats 1000000 in
set_option maxRecDepth 100000 in
theorem sortStable_none (d : Value) (w : World) :
    Calls Try.prog 22 #[.slice none 0 0, d] w fun e w' => e = .returned (.tuple #[]) ∧ w' = w := by
  have h28 : Calls Try.prog 28 #[.slice none 0 0, .int .i64 0, d] w fun e w' => e = .returned (.tuple #[]) ∧ w' = w := by
    go_enter Try.func28, Try.ntmps28
    go_wp2
    go_loopw [7, 8] (fun x y wr => x = .int .i64 0 ∧ y = .int .i64 20 ∧ wr = w) (fun _ _ _ => 0)
    case atStart => exact ⟨rfl, rfl, rfl⟩
    case round =>
      obtain ⟨rfl, rfl, rfl⟩ := hrel
      go_wp2_with (go_at_call 37; refine (insSort_none d _).mono ?_; rintro _ w2 ⟨rfl, rfl⟩)
      go_wp2
      go_loopw [6, 7, 8, 9] (fun x y z u wr2 => x = .int .i64 20 ∧ wr2 = w2) (fun _ _ _ _ _ => 0)
      case atStart => exact ⟨rfl, rfl⟩
      case round =>
        obtain ⟨rfl, rfl⟩ := hrel
        go_wp2
        go_end0
        exact ⟨rfl, rfl⟩
  go_enter Try.func22, Try.ntmps22
  go_wp2_with (go_at_call 28; refine h28.mono ?_; rintro _ w2 ⟨rfl, rfl⟩)
  go_end0
  exact ⟨rfl, rfl⟩
end Go.Proofs.Qxb6613158a
