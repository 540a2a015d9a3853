/-
  THE WALK of 'FnEntriesGetFindsInSortedList' (4): the names nil.
-/
import Derived.Test.Qxb6613158aEntBase
namespace Go.Proofs.Qxb6613158a
open Go.RowKit
set_option linter.unusedSimpArgs false
set_option linter.unusedVariables false

set_option maxHeartbeats 4000000 in
set_option maxRecDepth 100000 in
theorem entWalk_nil (n c : Nat) (hn0 : n ≤ 0) (l : List ByteArray) (qs : ByteArray) (w : World) (h : StrsAt w none n l) (hn : n ≤ maxLen) (hx : qs.size ≤ maxLen) :
    Calls Try.prog 4 #[.slice none n c, .string qs] w fun e w' => e = .returned (.bool true) ∧ Below w.heap.size w w' := by
  have hneq := fun (W : World) => run_neq_slice_nil_any (P := Try.prog) W 22 9 none n c 0 0 Try.underlying22
  have hnp := neq_ptr
  have hep := eql_ptr
  go_enter Try.func4, Try.ntmps4
  go_wp2_with fail
  refine (zz10 none n c l qs w h hn hx).mono ?_
  rintro e W ⟨hz, rfl⟩
  rcases hz with rfl | ⟨rfl, hn1, hb0, hx1⟩
  · go_wp2
    go_ret
    exact ⟨rfl, Below.refl _ _⟩
  have hb : Hid _ := hb0
  clear hb0
  by_cases hn2 : 65536 < n
  · exfalso
    omega
  have hst := h
  have hbel := Below.refl W.heap.size W
  go_wp2
  go_loop [6, 7] (fun z i => ∃ q k : Nat, z = .int .i64 q ∧ i = .int .i64 k ∧ k ≤ n ∧ q ≤ 1048576) (fun _ i => n - (intOf i).toNat)
  case atStart => exact ⟨qs.size, 0, rfl, rfl, Nat.zero_le _, by omega⟩
  case round =>
    obtain ⟨q, k, rfl, rfl, hk, hq⟩ := hrel
    by_cases hlt : k < n
    · exfalso
      omega
    · go_wp2
      go_loopw [8] (fun z wr => ∃ k : Nat, z = .int .i64 ((k : Int) + 1) ∧ (k + 1 ≤ n ∨ k = 0) ∧ (∀ j, j < k → lessB (l.getD j ByteArray.empty) (l.getD (j + 1) ByteArray.empty) = true) ∧ Same W wr) (fun i _ => n - (intOf i).toNat)
      case atStart => exact ⟨0, by simp, .inr rfl, fun j h1 => absurd h1 (Nat.not_lt_zero j), Same.refl _⟩
      case round =>
        obtain ⟨k2, rfl, hk2n, hall, hsame⟩ := hrel
        have HA : Hid _ := hall
        clear hall
        by_cases hlt2 : k2 + 1 < n
        · exfalso
          omega
        · have hris : Rising n (fun j => l.getD j ByteArray.empty) := rising_of n l (fun j hj => HA.out j (by omega))
          have hstr := strs_below hst (hsame.below _)
          have hbr := hbel.trans (hsame.below _)
          clear HA hb
          go_wp2_with fail
          refine (newList_any _ n _ l _ hstr (by omega)).mono ?_
          rintro e wN ⟨rfl, v, B, hB⟩
          obtain ⟨ea, ecap, hent⟩ := hB.entries
          have hstN := strs_below hstr hB.below
          have hend := hbr.trans (hB.below.mono hbr.size)
          go_wp2
          go_loop [10] (fun z => ∃ k : Nat, z = .int .i64 k ∧ k ≤ n) (fun z => n - (intOf z).toNat)
          case atStart => exact ⟨0, rfl, Nat.zero_le _⟩
          case round =>
            obtain ⟨k3, rfl, hk3⟩ := hrel
            by_cases hlt3 : k3 < n
            · exfalso
              omega
            · go_wp2
              go_loop [12, 13] (fun y x => ∃ (z : Int) (k : Nat), y = .int .i64 z ∧ x = .int .i64 k ∧ k ≤ n ∧ AtIs l qs k z) (fun _ x => n - (intOf x).toNat)
              case atStart => exact ⟨-1, 0, rfl, rfl, Nat.zero_le _, AtIs.zero l qs⟩
              case round =>
                obtain ⟨z, k4, rfl, rfl, hk4, hat⟩ := hrel
                have HAT : Hid _ := hat
                clear hat
                by_cases hlt4 : k4 < n
                · exfalso
                  omega
                · obtain rfl : k4 = n := by omega
                  go_wp2_with fail
                  refine (zget_any _ k4 ea ecap B _ qs _ (by omega) hris hent).mono ?_
                  rintro e w1 ⟨hG, rfl⟩
                  rcases HAT.out with ⟨hz, hnone⟩ | ⟨i, hz, hi, hfi⟩
                  · rcases hG with ⟨i, hi, hfi, rfl⟩ | ⟨hno, rfl⟩
                    · exact absurd hfi (hnone i hi)
                    · have hneg : z < 0 := by omega
                      clear hz hnone hno HAT
                      go_wp2
                      go_ret
                      exact ⟨rfl, hend⟩
                  · rcases hG with ⟨i2, hi2, hfi2, rfl⟩ | ⟨hno, rfl⟩
                    · exfalso
                      omega
                    · exact absurd hfi (hno i hi)
end Go.Proofs.Qxb6613158a
