/-
  THE WALK of 'FnEntriesGetFindsInSortedList' (4): the names not nil.
-/
import Derived.Test.Qxb6613158aEntBase
namespace Go.Proofs.Qxb6613158a
open Go.RowKit
set_option linter.unusedSimpArgs false
set_option linter.unusedVariables false

set_option maxHeartbeats 4000000 in
set_option maxRecDepth 100000 in
theorem entWalk_some (x : Addr) (n c : Nat) (l : List ByteArray) (qs : ByteArray) (w : World) (h : StrsAt w (some x) n l) (hn : n ≤ maxLen) (hx : qs.size ≤ maxLen) :
    Calls Try.prog 4 #[.slice (some x) n c, .string qs] w fun e w' => e = .returned (.bool true) ∧ Below w.heap.size w w' := by
  have hneq := fun (W : World) => run_neq_slice_nil_any (P := Try.prog) W 22 9 (some x) n c 0 0 Try.underlying22
  obtain ⟨W, hcopy, hst, hbel⟩ := copy_run (some x) n c l w h
  have hnp := neq_ptr
  have hep := eql_ptr
  go_enter Try.func4, Try.ntmps4
  go_wp2_with fail
  refine (zz10 (some x) n c l qs w h hn hx).mono ?_
  rintro e w' ⟨hz, rfl⟩
  rcases hz with rfl | ⟨rfl, hn1, hb0, hx1⟩
  · go_wp2
    go_ret
    exact ⟨rfl, Below.refl _ _⟩
  have hb : Hid _ := hb0
  clear hb0
  by_cases hn2 : 65536 < n
  · go_wp2
    go_ret
    exact ⟨rfl, Below.refl _ _⟩
  have hmk0 := run_make_row' (P := Try.prog) 22 9 (.string ByteArray.empty) 16 Try.underlying22 info9 rfl .i64 .i64 n (by omega) (by omega) w'
  go_wp2
  go_loop [6, 7] (fun z i => ∃ q k : Nat, z = .int .i64 q ∧ i = .int .i64 k ∧ k ≤ n ∧ q ≤ 1048576) (fun _ i => n - (intOf i).toNat)
  case atStart => exact ⟨qs.size, 0, rfl, rfl, Nat.zero_le _, by omega⟩
  case round =>
    obtain ⟨q, k, rfl, rfl, hk, hq⟩ := hrel
    by_cases hlt : k < n
    · obtain ⟨y, hy, hcy⟩ := hst.cell k hlt
      cases hy
      rw [addr_add, Nat.zero_add] at hcy
      have hsz := hb.out k hlt
      generalize hs : l.getD k ByteArray.empty = s at hcy hsz
      have HS : Hid _ := hs
      clear hs
      go_wp2
      · go_ret
        exact ⟨rfl, hbel⟩
      · refine ⟨⟨q + (16 + s.size), k + 1, by go_num, by go_num, by omega, by omega⟩, by simp [intOf]; omega⟩
    · go_wp2
      go_loopw [8] (fun z wr => ∃ k : Nat, z = .int .i64 ((k : Int) + 1) ∧ (k + 1 ≤ n ∨ k = 0) ∧ (∀ j, j < k → lessB (l.getD j ByteArray.empty) (l.getD (j + 1) ByteArray.empty) = true) ∧ Same W wr) (fun i _ => n - (intOf i).toNat)
      case atStart => exact ⟨0, by simp, .inr rfl, fun j h1 => absurd h1 (Nat.not_lt_zero j), Same.refl _⟩
      case round =>
        obtain ⟨k2, rfl, hk2n, hall, hsame⟩ := hrel
        have HA : Hid _ := hall
        clear hall
        by_cases hlt2 : k2 + 1 < n
        · have hstr := strs_below hst (hsame.below _)
          obtain ⟨y, hy, hcy⟩ := hstr.cell (k2 + 1) hlt2
          cases hy
          rw [addr_add, Nat.zero_add] at hcy
          obtain ⟨y, hy, hcz⟩ := hstr.cell k2 (by omega)
          cases hy
          rw [addr_add, Nat.zero_add] at hcz
          have hsa := hst.size k2 (by omega)
          have hsb := hst.size (k2 + 1) hlt2
          generalize hea : l.getD k2 ByteArray.empty = sa at hcz hsa
          generalize heb : l.getD (k2 + 1) ByteArray.empty = sb at hcy hsb
          have HEA : Hid _ := hea
          have HEB : Hid _ := heb
          clear hea heb
          have hwr := wrap_small k2 (by omega)
          have hi1 : (k2 : Int) < (n : Int) := by omega
          have hi2 : (k2 : Int) + 1 < (n : Int) := by omega
          have hi3 : (0 : Int) ≤ (k2 : Int) + 1 := by omega
          have hi4 : k2 < n := by omega
          rcases hL : lessB sa sb with _ | _
          · have HL : Hid _ := hL
            clear hL
            go_wp2
            go_quiet ((go_at_call 11; exact Calls.quiet_of (less_any sa sb hsa hsb _)))
            rw [HL.out]
            go_wp2
            go_ret
            exact ⟨rfl, (hbel.trans (hsame.below _)).trans (drewN_below _ _ _)⟩
          · have HL : Hid _ := hL
            clear hL
            go_wp2
            go_quiet ((go_at_call 11; exact Calls.quiet_of (less_any sa sb hsa hsb _)))
            rw [HL.out]
            go_wp2
            refine ⟨⟨k2 + 1, by go_num, .inl (by omega), fun j hj => ?_, hsame.trans (Same.drewN _ _)⟩, by simp [intOf]; omega⟩
            by_cases ej : j = k2
            · subst ej; rw [HEA.out, HEB.out]; exact HL.out
            · exact HA.out j (by omega)
        · have hris : Rising n (fun j => l.getD j ByteArray.empty) := rising_of n l (fun j hj => HA.out j (by omega))
          have hstr := strs_below hst (hsame.below _)
          have hbr := hbel.trans (hsame.below _)
          clear HA hb
          go_wp2_with fail
          refine (newList_any _ n _ l _ hstr (by omega)).mono ?_
          rintro e wN ⟨rfl, v, B, hB⟩
          obtain ⟨ea, ecap, hent⟩ := hB.entries
          have hstN := strs_below hstr hB.below
          have hend := hbr.trans (hB.below.mono hbr.size)
          go_wp2
          go_loop [10] (fun z => ∃ k : Nat, z = .int .i64 k ∧ k ≤ n) (fun z => n - (intOf z).toNat)
          case atStart => exact ⟨0, rfl, Nat.zero_le _⟩
          case round =>
            obtain ⟨k3, rfl, hk3⟩ := hrel
            by_cases hlt3 : k3 < n
            · obtain ⟨y, hy, hcy⟩ := hstN.cell k3 hlt3
              cases hy
              rw [addr_add, Nat.zero_add] at hcy
              go_wp2_with fail
              refine (zget_any _ n ea ecap B _ _ _ (by omega) hris hent).mono ?_
              rintro e w1 ⟨hG, rfl⟩
              rcases hG with ⟨i, hi, hfi, rfl⟩ | ⟨hno, rfl⟩
              · obtain rfl : i = k3 := hris.inj hi hlt3 (by simpa using hfi)
                clear hfi
                go_wp2_with fail
                refine (entryAt_any _ n i ea ecap B _ _ (by omega) hlt3 hent).mono ?_
                rintro e w2 ⟨rfl, rfl⟩
                go_wp2
                go_round
                case rel => exact ⟨i + 1, by go_num, by omega⟩
                case measure => simp [intOf]; omega
              · exact absurd (by simp) (hno k3 hlt3)
            · go_wp2
              go_loop [12, 13] (fun y x => ∃ (z : Int) (k : Nat), y = .int .i64 z ∧ x = .int .i64 k ∧ k ≤ n ∧ AtIs l qs k z) (fun _ x => n - (intOf x).toNat)
              case atStart => exact ⟨-1, 0, rfl, rfl, Nat.zero_le _, AtIs.zero l qs⟩
              case round =>
                obtain ⟨z, k4, rfl, rfl, hk4, hat⟩ := hrel
                have HAT : Hid _ := hat
                clear hat
                by_cases hlt4 : k4 < n
                · obtain ⟨y, hy, hcy⟩ := hstN.cell k4 hlt4
                  cases hy
                  rw [addr_add, Nat.zero_add] at hcy
                  generalize hes : l.getD k4 ByteArray.empty = s4 at hcy
                  have HES : Hid _ := hes
                  clear hes
                  have hbq := beq_bytes s4 qs
                  by_cases heq : s4 = qs
                  · have hbq' : (s4.toList == qs.toList) = true := by rw [hbq]; simp [heq]
                    have HEQ : Hid _ := heq
                    clear heq hbq
                    go_wp2
                    refine ⟨⟨k4, k4 + 1, rfl, by go_num, by omega, AtIs.hit (HES.out.trans HEQ.out)⟩, by simp [intOf]; omega⟩
                  · have hbq' : (s4.toList == qs.toList) = false := by rw [hbq]; simp [heq]
                    have HEQ : Hid _ := heq
                    clear heq hbq
                    go_wp2
                    refine ⟨⟨z, k4 + 1, rfl, by go_num, by omega, AtIs.miss HAT.out (by rw [HES.out]; exact HEQ.out)⟩, by simp [intOf]; omega⟩
                · obtain rfl : k4 = n := by omega
                  go_wp2_with fail
                  refine (zget_any _ k4 ea ecap B _ qs _ (by omega) hris hent).mono ?_
                  rintro e w1 ⟨hG, rfl⟩
                  rcases HAT.out with ⟨hz, hnone⟩ | ⟨i, hz, hi, hfi⟩
                  · rcases hG with ⟨i, hi, hfi, rfl⟩ | ⟨hno, rfl⟩
                    · exact absurd hfi (hnone i hi)
                    · have hneg : z < 0 := by omega
                      clear hz hnone hno HAT
                      go_wp2
                      go_ret
                      exact ⟨rfl, hend⟩
                  · rcases hG with ⟨i2, hi2, hfi2, rfl⟩ | ⟨hno, rfl⟩
                    · obtain rfl : i2 = i := hris.inj hi2 hi (by simpa using hfi2.trans hfi.symm)
                      subst hz
                      clear hfi hfi2 HAT
                      go_wp2_with fail
                      refine (entryAt_any _ k4 i2 ea ecap B _ _ (by omega) hi hent).mono ?_
                      rintro e w2 ⟨rfl, rfl⟩
                      go_wp2
                      go_ret
                      exact ⟨rfl, hend⟩
                    · exact absurd hfi (hno i hi)
end Go.Proofs.Qxb6613158a
