/-
  THE WALK of 'FnTypeAllowsInsertAnyPlace' (3).
-/
import Derived.Test.Qxb6612996aBase
import Derived.Test.Qxb6612996aInsertLaw
namespace Go.Proofs.Qxb6612996a.insertAny
open Go.RowKit
set_option linter.unusedSimpArgs false
set_option linter.unusedVariables false


set_option maxHeartbeats 4000000 in
set_option maxRecDepth 100000 in
theorem walk_some (x : Addr) (n c : Nat) (l : List ByteArray) (i : Int) (xs ts : ByteArray) (w : World) (h : StrsAt w (some x) n l) (hn : n ≤ maxLen) (hx : xs.size ≤ maxLen) (ht : ts.size ≤ maxLen) (hi : (Lit.int .i64 i).wf = true) :
    Calls Try.prog 3 #[.slice (some x) n c, .int .i64 i, .string xs, .string ts] w fun e w' => e = .returned (.bool true) ∧ Below w.heap.size w w' := by
  have hib := bounds_i64 hi
  have hneq := fun (W : World) => run_neq_slice_nil_any (P := Try.prog) W 22 9 (some x) n c 0 0 Try.underlying22
  obtain ⟨W, hcopy, hst, hbel⟩ := copy_run (some x) n c l w h
  go_enter Try.func3, Try.ntmps3
  go_wp2_with fail
  refine (zz5 (some x) n c l i xs ts w h hn hx ht).mono ?_
  rintro e w' ⟨hz, rfl⟩
  rcases hz with rfl | ⟨rfl, hn1, hb0, hx1, ht1⟩
  · go_wp2
    go_ret
    exact ⟨rfl, Below.refl _ _⟩
  · have hb : Hid _ := hb0
    clear hb0
    have hmk0 := run_make_row' (P := Try.prog) 22 9 (.string ByteArray.empty) 16 Try.underlying22 info9 rfl .i64 .i64 n (by omega) (by omega) w'
    go_wp2
    have hnn := hst.len
    have hl0 : Hid _ := hnn
    clear hnn
    -- the bound's second loop
    go_loop [10, 11] (fun z i => ∃ q k : Nat, z = .int .i64 q ∧ i = .int .i64 k ∧ k ≤ n ∧ q ≤ 2200000) (fun _ i => n - (intOf i).toNat)
    case atStart => exact ⟨xs.size + ts.size, 0, by go_num, rfl, Nat.zero_le _, by omega⟩
    case round =>
      obtain ⟨q, k, rfl, rfl, hk, hq⟩ := hrel
      by_cases hgo : k < n ∧ q ≤ 1048576
      · obtain ⟨hlt, hq1⟩ := hgo
        obtain ⟨y, hy, hcy⟩ := hst.cell k hlt
        cases hy
        rw [addr_add, Nat.zero_add] at hcy
        have hsz := hb.out k hlt
        generalize hs : l.getD k ByteArray.empty = s at hcy hsz
        have HS : Hid _ := hs
        clear hs
        go_wp2
        go_round
        case rel => exact ⟨q + (16 + s.size), k + 1, by go_num, by go_num, by omega, by omega⟩
        case measure => simp [intOf]; omega
      · by_cases hq2 : 1048576 < q
        · by_cases hlt : k < n
          · go_wp2
            go_ret
            exact ⟨rfl, hbel⟩
          · go_wp2
            go_ret
            exact ⟨rfl, hbel⟩
        · have hlt : ¬ k < n := fun h => hgo ⟨h, by omega⟩
          clear hgo
          by_cases hi0 : i < 0
          · go_wp2
            go_ret
            exact ⟨rfl, hbel⟩
          obtain ⟨p, rfl⟩ := Int.eq_ofNat_of_zero_le (show 0 ≤ i by omega)
          clear hi0
          by_cases hin : n < p
          · go_wp2
            go_ret
            exact ⟨rfl, hbel⟩
          have hmk := run_make_row' (P := Try.prog) 22 9 (.string ByteArray.empty) 16 Try.underlying22 info9 rfl .i64 .i64 (n + 1) (by omega) (by omega) W
          rw [show (((n + 1 : Nat)) : Int) = (n : Int) + 1 by omega] at hmk
          have hrow := World.rowIs_made W (.string ByteArray.empty) (n + 1) 9
          go_wp2
          go_loopw [13] (fun z wr => ∃ k : Nat, z = .int .i64 k ∧ k ≤ p ∧ (∃ f, wr.rowIs W.heap.size 9 (n + 1) f ∧ ∀ j, j < k → f j = .string (l.getD j ByteArray.empty)) ∧ Below W.heap.size W wr) (fun i _ => p - (intOf i).toNat)
          case atStart => exact ⟨0, rfl, Nat.zero_le _, ⟨_, hrow, fun j hj => absurd hj (Nat.not_lt_zero j)⟩, (Below.refl _ _).alloc (Nat.le_refl _) _⟩
          case round =>
            obtain ⟨k2, rfl, hk2, ⟨f, hrow2, hf⟩, hnx⟩ := hrel
            have HF : Hid _ := hf
            clear hf
            by_cases hlt2 : k2 < p
            · obtain ⟨y, hy, hcy⟩ := (strs_below hst hnx).cell k2 (by omega)
              cases hy
              rw [addr_add, Nat.zero_add] at hcy
              have hd := hrow2.cell (show k2 < n + 1 by omega)
              have hfz := hrow2.frozen k2
              go_wp2
              go_roundw
              case rel =>
                refine ⟨k2 + 1, by go_num, by omega, ⟨_, hrow2.set k2 _, fun j hj => ?_⟩, hnx.setCell (Nat.le_refl _) _⟩
                by_cases hj2 : j = k2
                · subst hj2; rw [if_pos rfl]; simp
                · rw [if_neg hj2]; exact HF.out j (by omega)
              case measure => simp [intOf]; omega
            · obtain rfl : k2 = p := by omega
              have hd := hrow2.cell (show k2 < n + 1 by omega)
              have hfz := hrow2.frozen k2
              go_wp2
              go_loopw [14] (fun z wr => ∃ k : Nat, z = .int .i64 k ∧ k2 ≤ k ∧ k ≤ n ∧ (∃ f, wr.rowIs W.heap.size 9 (n + 1) f ∧ (∀ j, j < k2 → f j = .string (l.getD j ByteArray.empty)) ∧ f k2 = .string xs ∧ ∀ j, k2 ≤ j → j < k → f (j + 1) = .string (l.getD j ByteArray.empty)) ∧ Below W.heap.size W wr) (fun i _ => n - (intOf i).toNat)
              case atStart =>
                refine ⟨k2, rfl, Nat.le_refl _, by omega, ⟨_, hrow2.set k2 _, fun j hj => ?_, by rw [if_pos rfl], fun j h1 h2 => by omega⟩, hnx.setCell (Nat.le_refl _) _⟩
                rw [if_neg (by omega)]
                exact HF.out j hj
              case round =>
                obtain ⟨k3, rfl, hk3, hk3n, ⟨f3, hrow3, hlo, hat, hhi⟩, hnx3⟩ := hrel
                have HLO : Hid _ := hlo
                have HAT : Hid _ := hat
                have HHI : Hid _ := hhi
                clear hlo hat hhi
                by_cases hlt3 : k3 < n
                · obtain ⟨y, hy, hcy⟩ := (strs_below hst hnx3).cell k3 hlt3
                  cases hy
                  rw [addr_add, Nat.zero_add] at hcy
                  have hd3 := hrow3.cell (show k3 + 1 < n + 1 by omega)
                  have hfz3 := hrow3.frozen (k3 + 1)
                  go_wp2
                  go_roundw
                  case rel =>
                    refine ⟨k3 + 1, by go_num, by omega, by omega, ⟨_, hrow3.set (k3 + 1) _, fun j hj => ?_, ?_, fun j h1 h2 => ?_⟩, hnx3.setCell (Nat.le_refl _) _⟩
                    · rw [if_neg (by omega)]; exact HLO.out j hj
                    · rw [if_neg (by omega)]; exact HAT.out
                    · by_cases hj3 : j = k3
                      · subst hj3; rw [if_pos rfl]; simp
                      · rw [if_neg (by omega)]; exact HHI.out j h1 (by omega)
                  case measure => simp [intOf]; omega
                · obtain rfl : k3 = n := by omega
                  have hys : StrsAt wr (some ⟨W.heap.size, 0, none⟩) (k3 + 1) (put l k2 xs) := by
                    have hll := hl0.out
                    refine StrsAt.ofRow hrow3 (by rw [put_length _ _ _ (by omega)]; omega) (fun j hj => ?_) (fun j hj => ?_)
                    · rcases Nat.lt_trichotomy j k2 with h | h | h
                      · rw [put_lo _ _ _ _ (by omega) h]; exact HLO.out j h
                      · subst h; rw [put_at _ _ _ (by omega)]; exact HAT.out
                      · obtain ⟨m, rfl⟩ : ∃ m, j = m + 1 := ⟨j - 1, by omega⟩
                        rw [put_hi _ _ _ _ (by omega) (by omega)]; exact HHI.out m (by omega) (by omega)
                    · rcases Nat.lt_trichotomy j k2 with h | h | h
                      · rw [put_lo _ _ _ _ (by omega) h]; exact hst.size j (by omega)
                      · subst h; rw [put_at _ _ _ (by omega)]; unfold maxLen; omega
                      · obtain ⟨m, rfl⟩ : ∃ m, j = m + 1 := ⟨j - 1, by omega⟩
                        rw [put_hi _ _ _ _ (by omega) (by omega)]; exact hst.size m (by omega)
                  have htys := strs_below hst hnx3
                  have hfin := allows_put l k2 xs ts
                  have e1 := beq_dec xs ts
                  have e2 := int_beq ts
                  have e3 := num_beq xs
                  have HFIN : Hid _ := hfin
                  have E1 : Hid _ := e1
                  have E2 : Hid _ := e2
                  have E3 : Hid _ := e3
                  clear hfin e1 e2 e3
                  go_wp2_with fail
                  refine (zallows _ _ _ l ts _ htys (by unfold maxLen; omega)).mono ?_
                  rintro e w1 ⟨rfl, rfl⟩
                  go_wp2_with fail
                  rw [show ((k3 : Int) + 1) = ((k3 + 1 : Nat) : Int) by omega]
                  refine (zallows _ _ _ (put l k2 xs) ts _ hys (by unfold maxLen; omega)).mono ?_
                  rintro e w1 ⟨rfl, rfl⟩
                  rw [HFIN.out]
                  have hend := hbel.trans (hnx3.mono hbel.size)
                  have e1 := E1.out
                  have e2 := E2.out
                  have e3 := E3.out
                  generalize allows l ts = A
                  generalize decide (xs = ts) = B at e1 ⊢
                  generalize decide (ts = integerS) = C at e2 ⊢
                  generalize decide (xs = numberS) = D at e3 ⊢
                  clear HFIN E1 E2 E3 hb hl0 HLO HAT HHI HF htys hys hst
                  cases A <;> cases B <;> cases C <;> cases D
                  all_goals
                    go_wp2
                    go_ret
                    exact ⟨rfl, hend⟩

set_option maxHeartbeats 4000000 in
set_option maxRecDepth 100000 in
theorem walk_nil (n c : Nat) (hn0 : n ≤ 0) (l : List ByteArray) (i : Int) (xs ts : ByteArray) (w : World) (h : StrsAt w none n l) (hx : xs.size ≤ maxLen) (ht : ts.size ≤ maxLen) (hi : (Lit.int .i64 i).wf = true) :
    Calls Try.prog 3 #[.slice none n c, .int .i64 i, .string xs, .string ts] w fun e w' => e = .returned (.bool true) ∧ Below w.heap.size w w' := by
  have hib := bounds_i64 hi
  have hneq := fun (W : World) => run_neq_slice_nil_any (P := Try.prog) W 22 9 none n c 0 0 Try.underlying22
  go_enter Try.func3, Try.ntmps3
  go_wp2_with fail
  refine (zz5 none n c l i xs ts w h (by unfold maxLen; omega) hx ht).mono ?_
  rintro e W ⟨hz, rfl⟩
  rcases hz with rfl | ⟨rfl, hn1, hb0, hx1, ht1⟩
  · go_wp2
    go_ret
    exact ⟨rfl, Below.refl _ _⟩
  · have hb : Hid _ := hb0
    clear hb0
    have hst := h
    have hbel := Below.refl W.heap.size W
    go_wp2
    have hnn := hst.len
    have hl0 : Hid _ := hnn
    clear hnn
    -- the bound's second loop
    go_loop [10, 11] (fun z i => ∃ q k : Nat, z = .int .i64 q ∧ i = .int .i64 k ∧ k ≤ n ∧ q ≤ 2200000) (fun _ i => n - (intOf i).toNat)
    case atStart => exact ⟨xs.size + ts.size, 0, by go_num, rfl, Nat.zero_le _, by omega⟩
    case round =>
      obtain ⟨q, k, rfl, rfl, hk, hq⟩ := hrel
      by_cases hgo : k < n ∧ q ≤ 1048576
      · obtain ⟨hlt, hq1⟩ := hgo
        exfalso
        omega
      · by_cases hq2 : 1048576 < q
        · by_cases hlt : k < n
          · exfalso
            omega
          · go_wp2
            go_ret
            exact ⟨rfl, hbel⟩
        · have hlt : ¬ k < n := fun h => hgo ⟨h, by omega⟩
          clear hgo
          by_cases hi0 : i < 0
          · go_wp2
            go_ret
            exact ⟨rfl, hbel⟩
          obtain ⟨p, rfl⟩ := Int.eq_ofNat_of_zero_le (show 0 ≤ i by omega)
          clear hi0
          by_cases hin : n < p
          · go_wp2
            go_ret
            exact ⟨rfl, hbel⟩
          have hmk := run_make_row' (P := Try.prog) 22 9 (.string ByteArray.empty) 16 Try.underlying22 info9 rfl .i64 .i64 (n + 1) (by omega) (by omega) W
          rw [show (((n + 1 : Nat)) : Int) = (n : Int) + 1 by omega] at hmk
          have hrow := World.rowIs_made W (.string ByteArray.empty) (n + 1) 9
          go_wp2
          go_loopw [13] (fun z wr => ∃ k : Nat, z = .int .i64 k ∧ k ≤ p ∧ (∃ f, wr.rowIs W.heap.size 9 (n + 1) f ∧ ∀ j, j < k → f j = .string (l.getD j ByteArray.empty)) ∧ Below W.heap.size W wr) (fun i _ => p - (intOf i).toNat)
          case atStart => exact ⟨0, rfl, Nat.zero_le _, ⟨_, hrow, fun j hj => absurd hj (Nat.not_lt_zero j)⟩, (Below.refl _ _).alloc (Nat.le_refl _) _⟩
          case round =>
            obtain ⟨k2, rfl, hk2, ⟨f, hrow2, hf⟩, hnx⟩ := hrel
            have HF : Hid _ := hf
            clear hf
            by_cases hlt2 : k2 < p
            · exfalso
              omega
            · obtain rfl : k2 = p := by omega
              have hd := hrow2.cell (show k2 < n + 1 by omega)
              have hfz := hrow2.frozen k2
              go_wp2
              go_loopw [14] (fun z wr => ∃ k : Nat, z = .int .i64 k ∧ k2 ≤ k ∧ k ≤ n ∧ (∃ f, wr.rowIs W.heap.size 9 (n + 1) f ∧ (∀ j, j < k2 → f j = .string (l.getD j ByteArray.empty)) ∧ f k2 = .string xs ∧ ∀ j, k2 ≤ j → j < k → f (j + 1) = .string (l.getD j ByteArray.empty)) ∧ Below W.heap.size W wr) (fun i _ => n - (intOf i).toNat)
              case atStart =>
                refine ⟨k2, rfl, Nat.le_refl _, by omega, ⟨_, hrow2.set k2 _, fun j hj => ?_, by rw [if_pos rfl], fun j h1 h2 => by omega⟩, hnx.setCell (Nat.le_refl _) _⟩
                rw [if_neg (by omega)]
                exact HF.out j hj
              case round =>
                obtain ⟨k3, rfl, hk3, hk3n, ⟨f3, hrow3, hlo, hat, hhi⟩, hnx3⟩ := hrel
                have HLO : Hid _ := hlo
                have HAT : Hid _ := hat
                have HHI : Hid _ := hhi
                clear hlo hat hhi
                by_cases hlt3 : k3 < n
                · exfalso
                  omega
                · obtain rfl : k3 = n := by omega
                  have hys : StrsAt wr (some ⟨W.heap.size, 0, none⟩) (k3 + 1) (put l k2 xs) := by
                    have hll := hl0.out
                    refine StrsAt.ofRow hrow3 (by rw [put_length _ _ _ (by omega)]; omega) (fun j hj => ?_) (fun j hj => ?_)
                    · rcases Nat.lt_trichotomy j k2 with h | h | h
                      · rw [put_lo _ _ _ _ (by omega) h]; exact HLO.out j h
                      · subst h; rw [put_at _ _ _ (by omega)]; exact HAT.out
                      · obtain ⟨m, rfl⟩ : ∃ m, j = m + 1 := ⟨j - 1, by omega⟩
                        rw [put_hi _ _ _ _ (by omega) (by omega)]; exact HHI.out m (by omega) (by omega)
                    · rcases Nat.lt_trichotomy j k2 with h | h | h
                      · rw [put_lo _ _ _ _ (by omega) h]; exact hst.size j (by omega)
                      · subst h; rw [put_at _ _ _ (by omega)]; unfold maxLen; omega
                      · obtain ⟨m, rfl⟩ : ∃ m, j = m + 1 := ⟨j - 1, by omega⟩
                        rw [put_hi _ _ _ _ (by omega) (by omega)]; exact hst.size m (by omega)
                  have htys := strs_below hst hnx3
                  have hfin := allows_put l k2 xs ts
                  have e1 := beq_dec xs ts
                  have e2 := int_beq ts
                  have e3 := num_beq xs
                  have HFIN : Hid _ := hfin
                  have E1 : Hid _ := e1
                  have E2 : Hid _ := e2
                  have E3 : Hid _ := e3
                  clear hfin e1 e2 e3
                  go_wp2_with fail
                  refine (zallows _ _ _ l ts _ htys (by unfold maxLen; omega)).mono ?_
                  rintro e w1 ⟨rfl, rfl⟩
                  go_wp2_with fail
                  rw [show ((k3 : Int) + 1) = ((k3 + 1 : Nat) : Int) by omega]
                  refine (zallows _ _ _ (put l k2 xs) ts _ hys (by unfold maxLen; omega)).mono ?_
                  rintro e w1 ⟨rfl, rfl⟩
                  rw [HFIN.out]
                  have hend := hbel.trans (hnx3.mono hbel.size)
                  have e1 := E1.out
                  have e2 := E2.out
                  have e3 := E3.out
                  generalize allows l ts = A
                  generalize decide (xs = ts) = B at e1 ⊢
                  generalize decide (ts = integerS) = C at e2 ⊢
                  generalize decide (xs = numberS) = D at e3 ⊢
                  clear HFIN E1 E2 E3 hb hl0 HLO HAT HHI HF htys hys hst
                  cases A <;> cases B <;> cases C <;> cases D
                  all_goals
                    go_wp2
                    go_ret
                    exact ⟨rfl, hend⟩
end Go.Proofs.Qxb6612996a.insertAny
