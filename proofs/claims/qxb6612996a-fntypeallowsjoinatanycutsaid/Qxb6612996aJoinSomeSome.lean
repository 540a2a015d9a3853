/-
  THE WALK of 'FnTypeAllowsJoinAtAnyCut' (4): the first list not nil, the second not nil.
-/
import Derived.Test.Qxb6612996aJoinBase
namespace Go.Proofs.Qxb6612996a.joinAny
open Go.RowKit
open Go.Proofs.Qxb6612996a.insertAny (strs_below)
set_option linter.unusedSimpArgs false
set_option linter.unusedVariables false

set_option maxHeartbeats 16000000 in
set_option maxRecDepth 100000 in
theorem walk_some_some (x : Addr) (n c : Nat) (l : List ByteArray) (y0 : Addr) (m d : Nat) (r : List ByteArray) (ts : ByteArray) (w : World) (ha : StrsAt w (some x) n l) (hn : n ≤ maxLen) (hb : StrsAt w (some y0) m r) (hm : m ≤ maxLen) (ht : ts.size ≤ maxLen) :
    Calls Try.prog 4 #[.slice (some x) n c, .slice (some y0) m d, .string ts] w fun e w' => e = .returned (.bool true) ∧ Below w.heap.size w w' := by
  have hneqA := fun (W : World) => run_neq_slice_nil_any (P := Try.prog) W 22 9 (some x) n c 0 0 Try.underlying22
  have hneqB := fun (W : World) => run_neq_slice_nil_any (P := Try.prog) W 22 9 (some y0) m d 0 0 Try.underlying22
  have hlen : Hid (l.length = n) := ha.len
  have hlen2 : Hid (r.length = m) := hb.len
  obtain ⟨W1, hcopyA, sta1, hbel1⟩ := copy_run (some x) n c l w ha
  have stb1 := strs_below hb hbel1
  obtain ⟨W, hcopyB, stb, hbel2⟩ := copy_run (some y0) m d r W1 stb1
  have sta := strs_below sta1 hbel2
  have hbel := hbel1.trans (hbel2.mono hbel1.size)
  clear stb1 sta1 hbel1 hbel2
  go_enter Try.func4, Try.ntmps4
  go_wp2_with fail
  refine (zz7 (some x) n c l (some y0) m d r ts w ha hn hb hm ht).mono ?_
  rintro e w' ⟨hz, rfl⟩
  rcases hz with rfl | ⟨rfl, hn1, hm1, hbl0, hbr0, ht1⟩
  · go_wp2
    go_ret
    exact ⟨rfl, Below.refl _ _⟩
  · have hbl : Hid _ := hbl0
    have hbr : Hid _ := hbr0
    clear hbl0 hbr0
    have hmkA := run_make_row' (P := Try.prog) 22 9 (.string ByteArray.empty) 16 Try.underlying22 info9 rfl .i64 .i64 n (by omega) (by omega) w'
    have hmkB := run_make_row' (P := Try.prog) 22 9 (.string ByteArray.empty) 16 Try.underlying22 info9 rfl .i64 .i64 m (by omega) (by omega) W1
    go_wp2
    go_loop [9, 10] (fun z i => ∃ q k : Nat, z = .int .i64 q ∧ i = .int .i64 k ∧ k ≤ n ∧ q ≤ 2200000) (fun _ i => n - (intOf i).toNat)
    case atStart => exact ⟨ts.size, 0, rfl, rfl, Nat.zero_le _, by omega⟩
    case round =>
      obtain ⟨q, k, rfl, rfl, hk, hq⟩ := hrel
      by_cases hgo : k < n ∧ q ≤ 1048576
      · obtain ⟨hlt, hq1⟩ := hgo
        obtain ⟨y, hy, hcy⟩ := sta.cell k hlt
        cases hy
        rw [addr_add, Nat.zero_add] at hcy
        have hsz := hbl.out k hlt
        generalize hs : l.getD k ByteArray.empty = s at hcy hsz
        have HS : Hid _ := hs
        clear hs
        go_wp2
        go_round
        case rel => exact ⟨q + (16 + s.size), k + 1, by go_num, by go_num, by omega, by omega⟩
        case measure => simp [intOf]; omega
      · have hno : ¬ k < n ∨ 1048576 < q := by omega
        clear hgo
        by_cases hlt : k < n
        · have hq1 : 1048576 < q := by omega
          clear hno
          go_wp2
          go_loop [9, 11] (fun z i => ∃ q k : Nat, z = .int .i64 q ∧ i = .int .i64 k ∧ k ≤ m ∧ q ≤ 2200000 ∧ 1048576 < q) (fun _ i => m - (intOf i).toNat)
          case atStart => exact ⟨q, 0, rfl, rfl, Nat.zero_le _, by omega, by omega⟩
          case round =>
            obtain ⟨q2, k2, rfl, rfl, hk2, hq2, hbigq⟩ := hrel
            by_cases hgo2 : k2 < m ∧ q2 ≤ 1048576
            · exfalso
              omega
            · have hno2 : ¬ k2 < m ∨ 1048576 < q2 := by omega
              clear hgo2
              by_cases hq4 : 1048576 < q2
              · by_cases hlt2 : k2 < m
                · go_wp2
                  go_ret
                  exact ⟨rfl, hbel⟩
                · go_wp2
                  go_ret
                  exact ⟨rfl, hbel⟩
              · exfalso
                omega
        · clear hno
          go_wp2
          go_loop [9, 11] (fun z i => ∃ q k : Nat, z = .int .i64 q ∧ i = .int .i64 k ∧ k ≤ m ∧ q ≤ 2200000) (fun _ i => m - (intOf i).toNat)
          case atStart => exact ⟨q, 0, rfl, rfl, Nat.zero_le _, by omega⟩
          case round =>
            obtain ⟨q2, k2, rfl, rfl, hk2, hq2⟩ := hrel
            by_cases hgo2 : k2 < m ∧ q2 ≤ 1048576
            · obtain ⟨hlt2, hq3⟩ := hgo2
              obtain ⟨y, hy, hcy⟩ := stb.cell k2 hlt2
              cases hy
              rw [addr_add, Nat.zero_add] at hcy
              have hsz := hbr.out k2 hlt2
              generalize hs : r.getD k2 ByteArray.empty = s at hcy hsz
              have HS : Hid _ := hs
              clear hs
              go_wp2
              go_round
              case rel => exact ⟨q2 + (16 + s.size), k2 + 1, by go_num, by go_num, by omega, by omega⟩
              case measure => simp [intOf]; omega
            · have hno2 : ¬ k2 < m ∨ 1048576 < q2 := by omega
              clear hgo2
              by_cases hq4 : 1048576 < q2
              · by_cases hlt2 : k2 < m
                · go_wp2
                  go_ret
                  exact ⟨rfl, hbel⟩
                · go_wp2
                  go_ret
                  exact ⟨rfl, hbel⟩
              · have hlt2 : ¬ k2 < m := by omega
                clear hno2
                have hmk1 := run_make_row' (P := Try.prog) 22 9 (.string ByteArray.empty) 16 Try.underlying22 info9 rfl .i64 .i64 (n + m) (by omega) (by omega) W
                rw [show (((n + m : Nat)) : Int) = (n : Int) + (m : Int) by omega] at hmk1
                have hmk2 := run_make_row' (P := Try.prog) 22 9 (.string ByteArray.empty) 16 Try.underlying22 info9 rfl .i64 .i64 (n + m + 1) (by omega) (by omega) (W.alloc (.cells (madeCells #[.string ByteArray.empty] (n + m)) 9))
                rw [show (((n + m + 1 : Nat)) : Int) = (n : Int) + (m : Int) + 1 by omega, show (W.alloc (.cells (madeCells #[.string ByteArray.empty] (n + m)) 9)).heap.size = W.heap.size + 1 by simp] at hmk2
                have hrow := (World.rowIs_made W (.string ByteArray.empty) (n + m) 9).alloc (.cells (madeCells #[.string ByteArray.empty] (n + m + 1)) 9)
                have hrow' := World.rowIs_made (W.alloc (.cells (madeCells #[.string ByteArray.empty] (n + m)) 9)) (.string ByteArray.empty) (n + m + 1) 9
                rw [show (W.alloc (.cells (madeCells #[.string ByteArray.empty] (n + m)) 9)).heap.size = W.heap.size + 1 by simp] at hrow'
                go_wp2
                go_loopw [14] (fun z wr => ∃ k : Nat, z = .int .i64 k ∧ k ≤ n ∧ (∃ f g, wr.rowIs W.heap.size 9 (n + m) f ∧ wr.rowIs (W.heap.size + 1) 9 (n + m + 1) g ∧ ∀ j, j < k → f j = .string (l.getD j ByteArray.empty) ∧ g j = .string (l.getD j ByteArray.empty)) ∧ Below W.heap.size W wr) (fun i _ => n - (intOf i).toNat)
                case atStart => exact ⟨0, rfl, Nat.zero_le _, ⟨_, _, hrow, hrow', fun j hj => absurd hj (Nat.not_lt_zero j)⟩, ((Below.refl _ _).alloc (Nat.le_refl _) _).alloc (by simp) _⟩
                case round =>
                  obtain ⟨k3, rfl, hk3, ⟨f, g, hrow3, hrow3', hfg⟩, hnx⟩ := hrel
                  have HF : Hid _ := hfg
                  clear hfg hmk1 hmk2
                  by_cases hlt3 : k3 < n
                  · obtain ⟨y, hy, hcy⟩ := sta.cell k3 hlt3
                    cases hy
                    rw [addr_add, Nat.zero_add] at hcy
                    have hltA := block_lt_of_cell hcy
                    simp only at hltA
                    have hcy := (hnx.cell hltA).trans hcy
                    have hd := hrow3.cell (show k3 < n + m by omega)
                    have hfz := hrow3.frozen k3
                    have hd' := hrow3'.cell (show k3 < n + m + 1 by omega)
                    have hfz' := hrow3'.frozen k3
                    go_wp2
                    go_roundw
                    case rel =>
                      refine ⟨k3 + 1, by go_num, by omega, ⟨_, _, (hrow3.set k3 _).setOther (by simp) _, (hrow3'.setOther (by simp) _).set k3 _, fun j hj => ?_⟩, (hnx.setCell (Nat.le_refl _) _).setCell (by simp) _⟩
                      by_cases hj3 : j = k3
                      · subst hj3; rw [if_pos rfl, if_pos rfl]; simp
                      · rw [if_neg hj3, if_neg hj3]; exact HF.out j (by omega)
                    case measure => simp [intOf]; omega
                  · obtain rfl : k3 = n := by omega
                    have hd' := hrow3'.cell (show k3 < k3 + m + 1 by omega)
                    have hfz' := hrow3'.frozen k3
                    go_wp2
                    go_loopw [15] (fun z wr => ∃ k : Nat, z = .int .i64 k ∧ k ≤ m ∧ (∃ f g, wr.rowIs W.heap.size 9 (k3 + m) f ∧ wr.rowIs (W.heap.size + 1) 9 (k3 + m + 1) g ∧ (∀ j, j < k3 → f j = .string (l.getD j ByteArray.empty) ∧ g j = .string (l.getD j ByteArray.empty)) ∧ g k3 = .string ts ∧ ∀ j, j < k → f (k3 + j) = .string (r.getD j ByteArray.empty) ∧ g (k3 + 1 + j) = .string (r.getD j ByteArray.empty)) ∧ Below W.heap.size W wr) (fun i _ => m - (intOf i).toNat)
                    case atStart =>
                      refine ⟨0, rfl, Nat.zero_le _, ⟨_, _, hrow3.setOther (by simp) _, hrow3'.set k3 _, fun j hj => ?_, by rw [if_pos rfl], fun j hj => absurd hj (Nat.not_lt_zero j)⟩, hnx.setCell (by simp) _⟩
                      rw [if_neg (by omega)]
                      exact HF.out j hj
                    case round =>
                      obtain ⟨k4, rfl, hk4, ⟨f4, g4, hrow4, hrow4', hlo, hat, hhi⟩, hnx4⟩ := hrel
                      have HLO : Hid _ := hlo
                      have HAT : Hid _ := hat
                      have HHI : Hid _ := hhi
                      clear hlo hat hhi
                      by_cases hlt4 : k4 < m
                      · obtain ⟨y, hy, hcy⟩ := stb.cell k4 hlt4
                        cases hy
                        rw [addr_add, Nat.zero_add] at hcy
                        have hltB := block_lt_of_cell hcy
                        simp only at hltB
                        have hcy := (hnx4.cell hltB).trans hcy
                        have hd4 := hrow4.cell (show k3 + k4 < k3 + m by omega)
                        have hfz4 := hrow4.frozen (k3 + k4)
                        have hd4' := hrow4'.cell (show k3 + 1 + k4 < k3 + m + 1 by omega)
                        have hfz4' := hrow4'.frozen (k3 + 1 + k4)
                        go_wp2
                        go_roundw
                        case rel =>
                          refine ⟨k4 + 1, by go_num, by omega, ⟨_, _, (hrow4.set (k3 + k4) _).setOther (by simp) _, (hrow4'.setOther (by simp) _).set (k3 + 1 + k4) _, fun j hj => ?_, ?_, fun j hj => ?_⟩, (hnx4.setCell (Nat.le_refl _) _).setCell (by simp) _⟩
                          · rw [if_neg (by omega), if_neg (by omega)]; exact HLO.out j hj
                          · rw [if_neg (by omega)]; exact HAT.out
                          · by_cases hj4 : j = k4
                            · subst hj4; rw [if_pos rfl, if_pos rfl]; simp
                            · rw [if_neg (by omega), if_neg (by omega)]; exact HHI.out j (by omega)
                        case measure => simp [intOf]; omega
                      · obtain rfl : k4 = m := by omega
                        have hla := hlen.out
                        have hrb := hlen2.out
                        have hab : StrsAt wr (some ⟨W.heap.size, 0, none⟩) (k3 + k4) (l ++ r) := by
                          refine StrsAt.ofRow hrow4 (by rw [List.length_append]; omega) (fun j hj => ?_) (fun j hj => ?_)
                          · by_cases h : j < k3
                            · rw [get_left _ _ _ (by omega)]; exact (HLO.out j h).1
                            · obtain ⟨i, rfl⟩ : ∃ i, j = k3 + i := ⟨j - k3, by omega⟩
                              rw [get_right _ _ _ _ hla]; exact (HHI.out i (by omega)).1
                          · by_cases h : j < k3
                            · rw [get_left _ _ _ (by omega)]; exact sta.size j h
                            · obtain ⟨i, rfl⟩ : ∃ i, j = k3 + i := ⟨j - k3, by omega⟩
                              rw [get_right _ _ _ _ hla]; exact stb.size i (by omega)
                        have hatb : StrsAt wr (some ⟨W.heap.size + 1, 0, none⟩) (k3 + k4 + 1) (l ++ ts :: r) := by
                          refine StrsAt.ofRow hrow4' (by rw [List.length_append, List.length_cons]; omega) (fun j hj => ?_) (fun j hj => ?_)
                          · rcases Nat.lt_trichotomy j k3 with h | h | h
                            · rw [get_left _ _ _ (by omega)]; exact (HLO.out j h).2
                            · subst h; rw [get_mid _ _ _ _ hla]; exact HAT.out
                            · obtain ⟨i, rfl⟩ : ∃ i, j = k3 + 1 + i := ⟨j - (k3 + 1), by omega⟩
                              rw [get_past _ _ _ _ _ hla]; exact (HHI.out i (by omega)).2
                          · rcases Nat.lt_trichotomy j k3 with h | h | h
                            · rw [get_left _ _ _ (by omega)]; exact sta.size j h
                            · subst h; rw [get_mid _ _ _ _ hla]; unfold maxLen; omega
                            · obtain ⟨i, rfl⟩ : ∃ i, j = k3 + 1 + i := ⟨j - (k3 + 1), by omega⟩
                              rw [get_past _ _ _ _ _ hla]; exact stb.size i (by omega)
                        have hta := strs_below sta hnx4
                        have htb := strs_below stb hnx4
                        have hend := hbel.trans (hnx4.mono hbel.size)
                        obtain ⟨A, hA⟩ : ∃ A, Hid (allows l ts = A) := ⟨_, rfl⟩
                        obtain ⟨B, hB⟩ : ∃ B, Hid (allows r ts = B) := ⟨_, rfl⟩
                        obtain ⟨N, hN⟩ : ∃ N, Hid (allows (l ++ r) integerS = N) := ⟨_, rfl⟩
                        have hW : Hid (allows (l ++ r) ts = (A || B)) := by rw [whole_parts, hA.out, hB.out]; rfl
                        have hwd := widen (l ++ r)
                        have hNm : Hid (N = false → allows (l ++ r) numberS = false) := by
                          intro h
                          rw [hN.out, h] at hwd
                          simpa using hwd
                        clear hla hrb hwd hlen hlen2 HLO HAT HHI HF hnx4 hrow4 hrow4' hd' hfz'
                        go_wp2_with fail
                        rw [show ((k3 : Int) + (k4 : Int)) = ((k3 + k4 : Nat) : Int) by omega]
                        refine (zallows_eq _ _ _ (l ++ r) ts _ _ hW.out hab (by unfold maxLen; omega)).mono ?_
                        rintro e w1 ⟨rfl, rfl⟩
                        go_wp2_with fail
                        refine (zallows_eq _ _ _ l ts _ _ hA.out hta (by unfold maxLen; omega)).mono ?_
                        rintro e w1 ⟨rfl, rfl⟩
                        cases B <;> cases A
                        · go_wp2_with fail
                          refine (zallows_eq _ _ _ r ts _ _ hB.out htb (by unfold maxLen; omega)).mono ?_
                          rintro e w1 ⟨rfl, rfl⟩
                          go_wp2_with fail
                          rw [show ((k3 : Int) + (k4 : Int) + 1) = ((k3 + k4 + 1 : Nat) : Int) by omega]
                          refine (zallows_eq _ _ _ (l ++ ts :: r) ts _ _ (named l r ts) hatb (by unfold maxLen; omega)).mono ?_
                          rintro e w1 ⟨rfl, rfl⟩
                          go_wp2_with fail
                          refine (zallows_eq _ _ _ (l ++ r) integerS _ _ hN.out hab (by unfold maxLen; omega)).mono ?_
                          rintro e w1 ⟨rfl, rfl⟩
                          cases N
                          · go_wp2_with fail
                            refine (zallows_eq _ _ _ (l ++ r) numberS _ _ (hNm.out (by simp)) hab (by unfold maxLen; omega)).mono ?_
                            rintro e w1 ⟨rfl, rfl⟩
                            go_wp2
                            go_ret
                            exact ⟨rfl, hend⟩
                          · go_wp2
                            go_ret
                            exact ⟨rfl, hend⟩

                        · go_wp2_with fail
                          rw [show ((k3 : Int) + (k4 : Int) + 1) = ((k3 + k4 + 1 : Nat) : Int) by omega]
                          refine (zallows_eq _ _ _ (l ++ ts :: r) ts _ _ (named l r ts) hatb (by unfold maxLen; omega)).mono ?_
                          rintro e w1 ⟨rfl, rfl⟩
                          go_wp2_with fail
                          refine (zallows_eq _ _ _ (l ++ r) integerS _ _ hN.out hab (by unfold maxLen; omega)).mono ?_
                          rintro e w1 ⟨rfl, rfl⟩
                          cases N
                          · go_wp2_with fail
                            refine (zallows_eq _ _ _ (l ++ r) numberS _ _ (hNm.out (by simp)) hab (by unfold maxLen; omega)).mono ?_
                            rintro e w1 ⟨rfl, rfl⟩
                            go_wp2
                            go_ret
                            exact ⟨rfl, hend⟩
                          · go_wp2
                            go_ret
                            exact ⟨rfl, hend⟩

                        · go_wp2_with fail
                          refine (zallows_eq _ _ _ r ts _ _ hB.out htb (by unfold maxLen; omega)).mono ?_
                          rintro e w1 ⟨rfl, rfl⟩
                          go_wp2_with fail
                          rw [show ((k3 : Int) + (k4 : Int) + 1) = ((k3 + k4 + 1 : Nat) : Int) by omega]
                          refine (zallows_eq _ _ _ (l ++ ts :: r) ts _ _ (named l r ts) hatb (by unfold maxLen; omega)).mono ?_
                          rintro e w1 ⟨rfl, rfl⟩
                          go_wp2_with fail
                          refine (zallows_eq _ _ _ (l ++ r) integerS _ _ hN.out hab (by unfold maxLen; omega)).mono ?_
                          rintro e w1 ⟨rfl, rfl⟩
                          cases N
                          · go_wp2_with fail
                            refine (zallows_eq _ _ _ (l ++ r) numberS _ _ (hNm.out (by simp)) hab (by unfold maxLen; omega)).mono ?_
                            rintro e w1 ⟨rfl, rfl⟩
                            go_wp2
                            go_ret
                            exact ⟨rfl, hend⟩
                          · go_wp2
                            go_ret
                            exact ⟨rfl, hend⟩

                        · go_wp2_with fail
                          rw [show ((k3 : Int) + (k4 : Int) + 1) = ((k3 + k4 + 1 : Nat) : Int) by omega]
                          refine (zallows_eq _ _ _ (l ++ ts :: r) ts _ _ (named l r ts) hatb (by unfold maxLen; omega)).mono ?_
                          rintro e w1 ⟨rfl, rfl⟩
                          go_wp2_with fail
                          refine (zallows_eq _ _ _ (l ++ r) integerS _ _ hN.out hab (by unfold maxLen; omega)).mono ?_
                          rintro e w1 ⟨rfl, rfl⟩
                          cases N
                          · go_wp2_with fail
                            refine (zallows_eq _ _ _ (l ++ r) numberS _ _ (hNm.out (by simp)) hab (by unfold maxLen; omega)).mono ?_
                            rintro e w1 ⟨rfl, rfl⟩
                            go_wp2
                            go_ret
                            exact ⟨rfl, hend⟩
                          · go_wp2
                            go_ret
                            exact ⟨rfl, hend⟩
end Go.Proofs.Qxb6612996a.joinAny
