/-
  THE WALK of the law (3).
-/
import Derived.Test.Qxb6613158aZz
import Derived.Test.Qxb6613158aMatZ
import Derived.Test.Qxb6613158aBck
import Derived.Deep.DeepCutAuto
namespace Go.Proofs.Qxb6613158a
open Go.RowKit Tj
set_option linter.unusedSimpArgs false
set_option linter.unusedVariables false

theorem info25 : (Try.prog.info? 25).map (fun i => (i.zero, i.size, i.bytes)) = some (some (.slice none 0 0), 1, 24) := by kernel_rfl

theorem sumTo_eq {f g : Nat → Nat} : ∀ {n : Nat}, (∀ j, j < n → f j = g j) → sumTo f n = sumTo g n
  | 0, _ => rfl
  | n + 1, h => by
    show sumTo f n + f n = sumTo g n + g n
    rw [sumTo_eq (fun j hj => h j (by omega)), h n (by omega)]

theorem sumTo_mono (f : Nat → Nat) : ∀ {n i : Nat}, i ≤ n → sumTo f i ≤ sumTo f n
  | 0, i, h => by
    have e : i = 0 := by omega
    rw [e]; exact Nat.le_refl _
  | n + 1, i, h => by
    by_cases e : i = n + 1
    · rw [e]; exact Nat.le_refl _
    · have := sumTo_mono f (n := n) (i := i) (by omega)
      show sumTo f i ≤ sumTo f n + f n
      omega

theorem FlatAt.kept {w w' : World} {a : Option Addr} {z : List Int} (h : FlatAt w a z) (hk : Kept noS w w') : FlatAt w' a z :=
  ⟨fun k hk2 => by
    obtain ⟨x, hx, hc⟩ := h.cell k hk2
    exact ⟨x, hx, hk.cell hc (fun h => h)⟩⟩

/-- The reversed lists, as far as they are laid. -/
def BckE (wP : World) (G n : Nat) (M : Nat → List Nat) (i k : Nat) (w : World) : Prop := ∃ B res, Bck w G n M i k B res ∧ Kept noS wP w

theorem below_of {B : Nat} {w w' : World} (h : Below w.heap.size w w') (hB : B ≤ w.heap.size) : Below B w w' := ⟨h.os, h.tape, h.output, h.size, fun k hk => h.block k (by omega)⟩

set_option maxHeartbeats 4000000 in
set_option maxRecDepth 100000 in
theorem law_any (a : Option Addr) (n c : Nat) (l : List ByteArray) (a2 : Option Addr) (m c2 : Nat) (Z : Nat → List Int) (w : World) (h : StrsAt w a n l) (hn : n ≤ maxLen) (h2 : MatZ w a2 m Z) (hm : m ≤ maxLen) :
    Calls Try.prog 3 #[.slice a n c, .slice a2 m c2] w fun e w' => e = .returned (.bool true) ∧ Below w.heap.size w w' := by
  have hneq := fun (W : World) => run_neq_slice_nil_any (P := Try.prog) W 22 9 a n c 0 0 Try.underlying22
  have h5 := zz5 a n c l a2 m c2 Z w h hn h2 hm
  obtain ⟨WC, hcopy, hst, hbel⟩ := copy_run a n c l w h
  have HST : Hid (StrsAt WC (some ⟨w.heap.size, 0, none⟩) n l) := hst
  have HBL : Hid (Below w.heap.size w WC) := hbel
  have HS0 : Hid (StrsAt w a n l) := h
  have HZ : Hid (MatZ w a2 m Z) := h2
  clear hst hbel h h2
  unfold maxLen at hn hm
  go_enter Try.func3, Try.ntmps3
  go_upto_region 3 with (go_at_call 5; refine h5.mono ?_; rintro e w' ⟨hz, rfl⟩; rcases hz with rfl | rfl)
  · -- <A
    go_wp2
    go_ret
    exact ⟨rfl, Below.refl _ _⟩
    -- A>
  clear h5
  by_cases hn2 : 4096 < n
  · -- <B
    go_wp2
    go_ret
    exact ⟨rfl, Below.refl _ _⟩
    -- B>
  by_cases hm2 : 4096 < m
  · -- <C
    go_wp2
    go_ret
    exact ⟨rfl, Below.refl _ _⟩
    -- C>
  go_upto_if 43 with fail
  have hmk22 := run_make_row' (P := Try.prog) 22 9 (.string ByteArray.empty) 16 Try.underlying22 info9 rfl .i64 .i64 n (by omega) (by omega) w'
  go_cut [0, 5] (fun v _ wc => ∃ (a' : Option Addr) (c' : Nat), v = .slice a' n c' ∧ Hid (StrsAt wc a' n l) ∧ Hid (Below w'.heap.size w' wc))
  case first =>
    as_aux_lemma =>
      cases a with
      | none =>
        go_wp2
        go_meet
        case rel => exact ⟨none, c, rfl, HS0, Below.refl _ _⟩
      | some x =>
        go_wp2
        go_meet
        case rel => exact ⟨_, n, rfl, HST, HBL⟩
  case rest =>
    obtain ⟨na, nc, rfl, HST, HBL⟩ := hcut
    have HZc : Hid (MatZ wc a2 m Z) := HZ.out.below HBL.out
    clear HZ HS0 hmk22 hcopy hneq
    go_wp2
    go_loop [6, 7] (fun z i => ∃ q k : Nat, z = .int .i64 q ∧ i = .int .i64 k ∧ k ≤ n ∧ q ≤ 1048576) (fun _ i => n - (intOf i).toNat)
    case atStart => exact ⟨0, 0, rfl, rfl, Nat.zero_le _, by omega⟩
    case round =>
      obtain ⟨q, k, rfl, rfl, hk, hq⟩ := hrel
      by_cases hlt : k < n
      · as_aux_lemma =>
          obtain ⟨y, hy, hcy⟩ := HST.out.cell k hlt
          subst hy
          have hsz := HST.out.size k hlt
          generalize l.getD k ByteArray.empty = s at hcy hsz
          unfold maxLen at hsz
          have n1 : (0 : Int) ≤ (k : Int) := by omega
          have n2 : (k : Int) < (n : Int) := by omega
          go_wp2
          · go_ret
            exact ⟨rfl, HBL.out⟩
          · go_ret
            exact ⟨rfl, HBL.out⟩
          · refine ⟨⟨q + (16 + s.size), k + 1, by go_num, by go_num, by omega, by omega⟩, by simp [intOf]; omega⟩
      · go_wp2
        go_loop [6, 8] (fun z i => ∃ q k : Nat, z = .int .i64 q ∧ i = .int .i64 k ∧ k ≤ m ∧ q ≤ 1048576 ∧ Hid (8 * sumTo (fun j => (Z j).length) k ≤ q)) (fun _ i => m - (intOf i).toNat)
        case atStart => exact ⟨q, 0, rfl, rfl, Nat.zero_le _, hq, by show 8 * 0 ≤ q; omega⟩
        case round =>
          obtain ⟨q2, k2, rfl, rfl, hk2, hq2, HSM⟩ := hrel
          by_cases hlt2 : k2 < m
          · as_aux_lemma =>
              obtain ⟨x, b, cc, hx, hcx, hsz, _⟩ := HZc.out.row k2 hlt2
              subst hx
              obtain ⟨L, hL⟩ : ∃ L, L = (Z k2).length := ⟨_, rfl⟩
              have HL : Hid (L = (Z k2).length) := hL
              rw [← hL] at hcx hsz
              clear hL
              unfold maxLen at hsz
              have n1 : (0 : Int) ≤ (k2 : Int) := by omega
              have n2 : (k2 : Int) < (m : Int) := by omega
              by_cases hLb : 131072 < L
              · go_wp2
                go_ret
                exact ⟨rfl, HBL.out⟩
              · by_cases hbig : 1048576 < q2 + (24 + 8 * L)
                · go_wp2
                  go_ret
                  exact ⟨rfl, HBL.out⟩
                · go_wp2
                  refine ⟨⟨q2 + (24 + 8 * L), k2 + 1, by go_num, by go_num, by omega, by omega, ?_⟩, by simp [intOf]; omega⟩
                  show 8 * (sumTo (fun j => (Z j).length) k2 + (Z k2).length) ≤ q2 + (24 + 8 * L)
                  have h1 := HSM.out
                  rw [← HL.out]
                  omega
          · by_cases hnm : n = m
            · subst hnm
              have HSUM : Hid (sumTo (fun j => (Z j).length) n ≤ 131072) := by
                have h1 := HSM.out
                have e : k2 = n := by omega
                rw [e] at h1
                show sumTo (fun j => (Z j).length) n ≤ 131072
                omega
              clear HSM
              go_wp2
              go_loop [10] (fun i => ∃ k : Nat, i = .int .i64 k ∧ k ≤ n ∧ Hid (∀ i' t, i' < k → t < (Z i').length → 0 ≤ (Z i').getD t 0 ∧ (Z i').getD t 0 < n)) (fun i => n - (intOf i).toNat)
              case atStart => exact ⟨0, rfl, Nat.zero_le _, fun i' t h => absurd h (Nat.not_lt_zero _)⟩
              case round =>
                obtain ⟨k3, rfl, hk3, HR3⟩ := hrel
                by_cases hlt3 : k3 < n
                · as_aux_lemma =>
                    obtain ⟨x, b, cc, hx, hcx, hsz, hrow⟩ := HZc.out.row k3 hlt3
                    subst hx
                    obtain ⟨L, hL⟩ : ∃ L, L = (Z k3).length := ⟨_, rfl⟩
                    have HL : Hid (L = (Z k3).length) := hL
                    have HROW : Hid (∀ k, k < L → ∃ y : Addr, b = some y ∧ wc.cell? (y.add k) = some (.int .i64 ((Z k3).getD k 0))) := by rw [hL]; exact hrow
                    rw [← hL] at hcx hsz
                    clear hL hrow
                    unfold maxLen at hsz
                    have n1 : (0 : Int) ≤ (k3 : Int) := by omega
                    have n2 : (k3 : Int) < (n : Int) := by omega
                    go_wp2
                    go_loop [112] (fun i => ∃ k : Nat, i = .int .i64 k ∧ k ≤ L ∧ Hid (∀ t, t < k → 0 ≤ (Z k3).getD t 0 ∧ (Z k3).getD t 0 < n)) (fun i => L - (intOf i).toNat)
                    case atStart => exact ⟨0, rfl, Nat.zero_le _, fun t h => absurd h (Nat.not_lt_zero _)⟩
                    case round =>
                      obtain ⟨k4, rfl, hk4, HR4⟩ := hrel
                      by_cases hlt4 : k4 < L
                      · obtain ⟨y, hy, hcy⟩ := HROW.out k4 hlt4
                        subst hy
                        obtain ⟨zv, hzv⟩ : ∃ zv, zv = (Z k3).getD k4 0 := ⟨_, rfl⟩
                        have HZV : Hid (zv = (Z k3).getD k4 0) := hzv
                        rw [← hzv] at hcy
                        clear hzv
                        have n3 : (0 : Int) ≤ (k4 : Int) := by omega
                        have n4 : (k4 : Int) < (L : Int) := by omega
                        by_cases hz0 : zv < 0
                        · go_wp2
                          go_ret
                          exact ⟨rfl, HBL.out⟩
                        · by_cases hzn : (n : Int) ≤ zv
                          · go_wp2
                            go_ret
                            exact ⟨rfl, HBL.out⟩
                          · go_wp2
                            refine ⟨⟨k4 + 1, by go_num, by omega, fun t ht => ?_⟩, by simp [intOf]; omega⟩
                            by_cases e : t = k4
                            · rw [e, ← HZV.out]; omega
                            · exact HR4.out t (by omega)
                      · go_wp2
                        refine ⟨⟨k3 + 1, by go_num, by omega, fun i' t hi' ht => ?_⟩, by simp [intOf]; omega⟩
                        by_cases e : i' = k3
                        · rw [e] at ht ⊢
                          exact HR4.out t (by have := HL.out; omega)
                        · exact HR3.out i' t (by omega) ht
                · have HIN : Hid (InRange n Z) := fun i k hi hk => HR3.out i k (by omega) hk
                  clear HR3
                  obtain ⟨M, hMe⟩ : ∃ M, M = toM n Z := ⟨_, rfl⟩
                  have HM : Hid (Mat wc a2 n M) := by rw [hMe]; exact HZc.out.toMat HIN.out
                  have HMR : Hid (∀ v u, v < n → u ∈ M v → u < n) := by rw [hMe]; exact toM_lt HIN.out
                  have HM0 : Hid (∀ v, n ≤ v → M v = []) := by rw [hMe]; exact fun v hv => toM_out hv
                  have HMS : Hid (sumTo (fun i => (M i).length) n ≤ 131072) := by
                    have e : sumTo (fun i => (M i).length) n = sumTo (fun j => (Z j).length) n := sumTo_eq (fun j hj => by rw [hMe]; exact toM_len hj)
                    show sumTo (fun i => (M i).length) n ≤ 131072
                    rw [e]; exact HSUM.out
                  have HML : Hid (∀ v, v < n → (M v).length ≤ 131072) := fun v hv => Nat.le_trans (sumTo_mem (fun i => (M i).length) hv) HMS.out
                  have h6 := zz_any na nc c2 wc n (by omega) a2 M (fun k => l.getD k ByteArray.empty) (fun k hk => HST.out.cell k hk) HM.out (fun i u hi hu => HMR.out i u hi hu) HM0.out HMS.out HML.out
                  clear hMe HIN HZc HSUM HST
                  go_upto_region 39 with (go_at_call 6; refine h6.mono ?_; rintro e wN ⟨⟨gN, gR, num, lo, hi, res, z, v6, v7, rfl, hnr, hNum, hrr, hz, hsm⟩, hbN⟩)
                  clear h6
                  have h7 := perm_any gN n n num wN (by omega) hnr hNum.lt hNum.inj
                  have HNR : Hid (wN.rowIs gN 21 n (fun i => .int .i32 (num i : Nat))) := hnr
                  have HNUM : Hid (Numbered n M num lo hi) := hNum
                  have HRR : Hid (wN.rowIs gR 26 n res) := hrr
                  have HRZ : Hid (∀ i, i < n → ∃ a c, res i = .slice a (z i).length c ∧ FlatAt wN a (z i) ∧ (z i).length ≤ 8192) := hz
                  have HSM : Hid (∀ u v, u < n → v < n → hi u = hi v → z u = z v) := hsm
                  have HBN : Hid (Below wc.heap.size wc wN) := hbN
                  clear hnr hNum hrr hz hsm hbN
                  have hneqn : ((n : Int) != (n : Int)) = false := by simp
                  go_upto_region 41 with (go_at_call 7; refine h7.mono ?_; rintro e wP ⟨rfl, hbP⟩)
                  clear h7 hneqn
                  have kP : Kept noS wN wP := Kept.of_below hbP
                  have kcN : Kept noS wc wN := Kept.of_below HBN.out
                  have HNRP : Hid (wP.rowIs gN 21 n (fun i => .int .i32 (num i : Nat))) := kP.row HNR.out (fun h => h)
                  have HRRP : Hid (wP.rowIs gR 26 n res) := kP.row HRR.out (fun h => h)
                  have HRZP : Hid (∀ i, i < n → ∃ a c, res i = .slice a (z i).length c ∧ FlatAt wP a (z i) ∧ (z i).length ≤ 8192) := fun i hi => by
                    obtain ⟨a, c, h1, h2, h3⟩ := HRZ.out i hi
                    exact ⟨a, c, h1, h2.kept kP, h3⟩
                  have HMP : Hid (Mat wP a2 n M) := HM.out.below ((kcN.trans kP (fun x hx => hx.elim)).below (Nat.le_refl _) (fun x hx => hx.elim))
                  have HBP : Hid (Below w'.heap.size w' wP) := HBL.out.trans ((kcN.trans kP (fun x hx => hx.elim)).below HBL.out.size (fun x hx => hx.elim))
                  clear HNR HRR HRZ HM HBL HBN kP kcN hbP
                  have hmk23 := fun W => run_make_row' (P := Try.prog) 23 25 (.slice none 0 0) 24 Try.underlying23 info25 rfl .i64 .i64 n (by omega) (by omega) W
                  go_upto_region 42 with fail
                  clear hmk23
                  obtain ⟨G, hG⟩ : ∃ G, G = wP.heap.size := ⟨_, rfl⟩
                  have HG : Hid (G = wP.heap.size) := hG
                  have HB0 : Hid (BckE wP G n M 0 0 (wP.alloc (.cells (madeCells #[.slice none 0 0] n) 25))) := by rw [hG]; exact ⟨_, _, Bck.zero wP n M, (Kept.refl noS wP).alloc _⟩
                  rw [← hG]
                  clear hG
                  generalize wP.alloc (.cells (madeCells #[.slice none 0 0] n) 25) = w0 at *
                  go_wp2
                  go_loopg [18] n (fun gk z wr => ∃ i : Nat, z = .int .i64 i ∧ i ≤ n ∧ n - i ≤ gk ∧ Hid (BckE wP G n M i 0 wr))
                  case atStart => exact ⟨0, rfl, Nat.zero_le _, Nat.le_refl _, HB0⟩
                  case round =>
                    clear HB0
                    obtain ⟨i, rfl, hi5, hgi5, HBE⟩ := hrel
                    by_cases hin : i < n
                    · as_aux_lemma =>
                        obtain ⟨x, b, cc, hx, hxc, hrow⟩ := HMP.out.row i hin
                        have HROW : Hid (∀ k, k < (M i).length → ∃ y : Addr, b = some y ∧ wP.cell? (y.add k) = some (.int .i64 ((M i).getD k 0 : Nat))) := hrow
                        subst hx
                        have n1 : (0 : Int) ≤ (i : Int) := by omega
                        have n2 : (i : Int) < (n : Int) := by omega
                        have e1 : wr.cell? (x.add i) = some (.slice b (M i).length cc) := by
                          obtain ⟨_, _, _, hk⟩ := HBE.out
                          exact hk.cell hxc (fun h => h)
                        clear hrow hxc
                        go_wp2
                        clear e1
                        obtain ⟨L, hL⟩ : ∃ L, L = (M i).length := ⟨_, rfl⟩
                        have HLL : Hid (L = (M i).length) := hL
                        have hLb : L ≤ 131072 := by rw [hL]; exact HML.out i hin
                        rw [← hL]
                        clear hL
                        go_loopg [154] L (fun gk z wr => ∃ k : Nat, z = .int .i64 k ∧ k ≤ L ∧ L - k ≤ gk ∧ Hid (BckE wP G n M i k wr))
                        case atStart => exact ⟨0, rfl, Nat.zero_le _, Nat.le_refl _, HBE⟩
                        case round =>
                          clear HBE
                          obtain ⟨k, rfl, hk6, hgk6, HBE⟩ := hrel
                          obtain ⟨B, rs, HBk, HKK⟩ : ∃ B rs, Hid (Bck wr G n M i k B rs) ∧ Hid (Kept noS wP wr) := HBE.out
                          by_cases hkn : k < L
                          · -- <K
                            obtain ⟨y, hy, hyc⟩ := HROW.out k (by rw [← HLL.out]; exact hkn)
                            subst hy
                            obtain ⟨t, ht⟩ : ∃ t, t = (M i).getD k 0 := ⟨_, rfl⟩
                            have HT : Hid ((M i).getD k 0 = t) := ht.symm
                            rw [← ht] at hyc
                            have hkM : k < (M i).length := by rw [← HLL.out]; exact hkn
                            have HKM : Hid (k < (M i).length) := hkM
                            have htn : t < n := HMR.out i t hin (by
                              rw [ht, List.getD_eq_getElem?_getD, List.getElem?_eq_getElem hkM]
                              exact List.getElem_mem _)
                            have e2 := HKK.out.cell hyc (fun h => h)
                            obtain ⟨ra, rc, hrv⟩ := own_form (HBk.out.form htn)
                            have HRV : Hid (rs t = .slice ra (B t).length rc) := hrv
                            have hBl : (B t).length ≤ 262144 := by
                              have h1 := HBk.out.len t
                              have h2 : sumTo (fun i => (M i).length) i ≤ sumTo (fun i => (M i).length) n := sumTo_mono _ (by omega)
                              have h3 := HMS.out
                              omega
                            obtain ⟨bl, hbl⟩ : ∃ bl, bl = (B t).length := ⟨_, rfl⟩
                            obtain ⟨g, gc, w3, hrun, hown, hk3, hat⟩ := HBk.out.app htn (by omega) (q := wr.heap.size) (x := i) ((Kept.refl noS wr).alloc (.cells #[.int .i64 (i : Nat)] 3)) (alloc_at _ _ _ rfl)
                            obtain ⟨hr3, hB4, hb4⟩ := HBk.out.next htn hkM HT.out ((Kept.refl noS wr).alloc (.cells #[.int .i64 (i : Nat)] 3)) hown hk3 (by
                              rcases hat with h | h
                              · exact .inl h
                              · exact .inr (by rw [h]; simp))
                            have HRUN : Hid ((Builtin.append_ #[25, 25] 25 #[.slice ra bl rc, .slice (some ⟨wr.heap.size, 0, none⟩) 1 1]).run Try.prog (wr.alloc (.cells #[.int .i64 (i : Nat)] 3)) = .ok (.slice (some ⟨g, 0, none⟩) (bl + 1) gc) w3) := by rw [HRV.out] at hrun; rw [hbl]; exact hrun
                            have e3 : wr.cell? ⟨G, t, none⟩ = some (.slice ra bl rc) := by rw [HBk.out.rr.cell htn, HRV.out, hbl]
                            have s3 : w3.cell? ⟨G, t, none⟩ = some (.slice ra bl rc) := by rw [hr3.cell htn, HRV.out, hbl]
                            have z3 := hr3.frozen t
                            have HB5 : Hid (BckE wP G n M i (k + 1) (w3.setCell ⟨G, t, none⟩ (.slice (some ⟨g, 0, none⟩) (bl + 1) gc))) := by
                              have hz := HKK.out.size
                              have hg := HG.out
                              rw [hbl]
                              exact ⟨_, _, hB4, ⟨hb4.os.trans HKK.out.os, hb4.tape.trans HKK.out.tape, hb4.output.trans HKK.out.output, Nat.le_trans hz hb4.size, fun b hb _ => (hb4.block b (by omega)).trans (HKK.out.block b hb (fun h => h))⟩⟩
                            have n3 : (0 : Int) ≤ (k : Int) := by omega
                            have n4 : (k : Int) < (L : Int) := by omega
                            have n5 : (0 : Int) ≤ (t : Int) := by omega
                            have n6 : (t : Int) < (n : Int) := by omega
                            clear hyc ht hrv hBl hbl hrun hown hk3 hat hr3 hB4 hb4 HBk HKK HBE hkM
                            go_wp2_with (at_builtin; refine wpList_append_run rfl _ _ 25 25 rfl _ _ _ rfl rfl HRUN.out ?_)
                            go_roundg (L - (k + 1))
                            case measure => omega
                            case rel => exact ⟨k + 1, by go_num, by omega, Nat.le_refl _, HB5⟩
                            -- K>
                          · have HB6 : Hid (BckE wP G n M (i + 1) 0 wr) := by
                              have e : k = (M i).length := by have := HLL.out; omega
                              have h := HBk.out
                              rw [e] at h
                              exact ⟨B, rs, h.step, HKK.out⟩
                            clear HBE HBk HKK
                            go_wp2
                            go_roundg (n - (i + 1))
                            case measure => omega
                            case rel => exact ⟨i + 1, by go_num, by omega, Nat.le_refl _, HB6⟩
                    · obtain ⟨B, rs, HBk, HKK⟩ : ∃ B rs, Hid (Bck wr G n M n 0 B rs) ∧ Hid (Kept noS wP wr) := by
                        have e : i = n := by omega
                        have h := HBE.out
                        rw [e] at h
                        exact h
                      clear HBE
                      have hmk31 := fun W => run_make_row' (P := Try.prog) 31 4 (.bool false) 1 Try.underlying31 info4 rfl .i64 .i64 n (by omega) (by omega) W
                      go_upto_region 52 with fail
                      have HNRQ : Hid (wr.rowIs gN 21 n (fun i => .int .i32 (num i : Nat))) := HKK.out.row HNRP.out (fun h => h)
                      have HRRQ : Hid (wr.rowIs gR 26 n res) := HKK.out.row HRRP.out (fun h => h)
                      have HRZQ : Hid (∀ i, i < n → ∃ a c, res i = .slice a (z i).length c ∧ FlatAt wr a (z i) ∧ (z i).length ≤ 8192) := fun i hi => by
                        obtain ⟨a, c, h1, h2, h3⟩ := HRZP.out i hi
                        exact ⟨a, c, h1, h2.kept HKK.out, h3⟩
                      have HMQ : Hid (Mat wr a2 n M) := HMP.out.below (HKK.out.below (Nat.le_refl _) (fun x hx => hx.elim))
                      have HBQ : Hid (Below w'.heap.size w' wr) := HBP.out.trans (HKK.out.below HBP.out.size (fun x hx => hx.elim))
                      have HMB : Hid (Mat wr (some ⟨G, 0, none⟩) n B) := HBk.out.mat
                      have HREV : Hid (∀ u v, u ∈ M v ↔ v ∈ B u) := fun u v => by
                        rw [HBk.out.mem u v]
                        constructor
                        · intro h
                          by_cases hv : v < n
                          · exact .inl ⟨hv, h⟩
                          · rw [HM0.out v (by omega)] at h; cases h
                        · rintro (⟨_, h⟩ | ⟨_, h⟩)
                          · exact h
                          · rw [List.take_zero] at h; cases h
                      have HBA : Hid (∀ v u, v < n → u ∈ B v → u < n) := fun v u _ hu => by
                        rcases (HBk.out.mem v u).1 hu with ⟨h1, _⟩ | ⟨_, h⟩
                        · exact h1
                        · rw [List.take_zero] at h; cases h
                      have HBLn : Hid (∀ j, j < n → (B j).length ≤ 1048576) := fun j _ => by
                        have h1 := HBk.out.len j
                        have h2 := HMS.out
                        omega
                      have HMLn : Hid (∀ j, j < n → (M j).length ≤ 1048576) := fun j hj => by have := HML.out j hj; omega
                      clear HNRP HRRP HRZP HMP HBP HBk HKK HMS HML HM0 HG hmk31
                      obtain ⟨wQ, hwQ⟩ : ∃ wQ, wQ = wr := ⟨_, rfl⟩
                      have HK0 : Hid (Kept noS wQ ((wr.alloc (.cells (madeCells #[.bool false] n) 4)).alloc (.cells (madeCells #[.bool false] n) 4))) := by rw [hwQ]; exact ((Kept.refl noS wr).alloc _).alloc _
                      have HR0 : Hid (∃ f1 f2 : Nat → Bool, World.rowIs ((wr.alloc (.cells (madeCells #[.bool false] n) 4)).alloc (.cells (madeCells #[.bool false] n) 4)) wQ.heap.size 4 n (fun j => .bool (f1 j)) ∧ World.rowIs ((wr.alloc (.cells (madeCells #[.bool false] n) 4)).alloc (.cells (madeCells #[.bool false] n) 4)) (wQ.heap.size + 1) 4 n (fun j => .bool (f2 j))) := by
                        rw [hwQ]
                        refine ⟨fun _ => false, fun _ => false, (World.rowIs_made wr (.bool false) n 4).alloc _, ?_⟩
                        have h := World.rowIs_made (wr.alloc (.cells (madeCells #[.bool false] n) 4)) (.bool false) n 4
                        have e : (wr.alloc (.cells (madeCells #[.bool false] n) 4)).heap.size = wr.heap.size + 1 := by simp
                        rw [e] at h
                        exact h
                      rw [← hwQ] at HNRQ HRRQ HRZQ HMQ HBQ HMB
                      rw [show wr.heap.size = wQ.heap.size by rw [hwQ]]
                      clear hwQ
                      generalize (wr.alloc (.cells (madeCells #[.bool false] n) 4)).alloc (.cells (madeCells #[.bool false] n) 4) = w0 at *
                      go_wp2
                      go_loopg [23] n (fun gk z wr => ∃ u : Nat, z = .int .i64 u ∧ u ≤ n ∧ n - u ≤ gk ∧ Hid (∃ f1 f2 : Nat → Bool, wr.rowIs wQ.heap.size 4 n (fun j => .bool (f1 j)) ∧ wr.rowIs (wQ.heap.size + 1) 4 n (fun j => .bool (f2 j))) ∧ Hid (Kept noS wQ wr))
                      case atStart => exact ⟨0, rfl, Nat.zero_le _, Nat.le_refl _, HR0, HK0⟩
                      case round =>
                        clear HR0 HK0
                        obtain ⟨u, rfl, hu7, hgu7, HRW, HKW⟩ := hrel
                        by_cases hun : u < n
                        · obtain ⟨f1, f2, HF1, HF2⟩ : ∃ f1 f2 : Nat → Bool, Hid (wr.rowIs wQ.heap.size 4 n (fun j => .bool (f1 j))) ∧ Hid (wr.rowIs (wQ.heap.size + 1) 4 n (fun j => .bool (f2 j))) := HRW.out
                          have h8 := reach_any a2 n c2 u wQ.heap.size n M wr wQ (by omega) hun HMQ.out (HKW.out.below (Nat.le_refl _) (fun x hx => hx.elim)) (Nat.le_refl _) HMLn.out HMR.out f1 HF1.out
                          go_upto_region 56 with (go_at_call 8; refine h8.mono ?_; rintro e w1 ⟨rfl, ⟨R1, hR1, hR1r⟩, hk1⟩)
                          clear h8
                          have HK1 : Hid (Kept noS wQ w1) := (HKW.out.mono (T := fun b => b = wQ.heap.size) (fun x hx => hx.elim)).trans hk1 (fun x hx => .inl hx) |> fun hk => ⟨hk.os, hk.tape, hk.output, hk.size, fun b hb _ => hk.block b hb (fun e => by omega)⟩
                          have h8 := reach_any (some ⟨G, 0, none⟩) n n u (wQ.heap.size + 1) n B w1 wQ (by omega) hun HMB.out (HK1.out.below (Nat.le_refl _) (fun x hx => hx.elim)) (by omega) HBLn.out HBA.out f2 (hk1.row HF2.out (by omega))
                          have HR1 : Hid (w1.rowIs wQ.heap.size 4 n (fun j => .bool (R1 j))) := hR1
                          have HRR1 : Hid (∀ j, j < n → (R1 j = true ↔ Reach1 M u j)) := hR1r
                          clear hR1 hR1r hk1 HF1 HF2 HRW HKW
                          go_upto_region 57 with (go_at_call 8; refine h8.mono ?_; rintro e w2 ⟨rfl, ⟨R2, hR2, hR2r⟩, hk2⟩)
                          clear h8
                          have HK2 : Hid (Kept noS wQ w2) := (HK1.out.mono (T := fun b => b = wQ.heap.size + 1) (fun x hx => hx.elim)).trans hk2 (fun x hx => .inl hx) |> fun hk => ⟨hk.os, hk.tape, hk.output, hk.size, fun b hb _ => hk.block b hb (fun e => by omega)⟩
                          have HR1' : Hid (w2.rowIs wQ.heap.size 4 n (fun j => .bool (R1 j))) := hk2.row HR1.out (by omega)
                          have HR2 : Hid (w2.rowIs (wQ.heap.size + 1) 4 n (fun j => .bool (R2 j))) := hR2
                          have HRR2 : Hid (∀ j, j < n → (R2 j = true ↔ Reach1 M j u)) := fun j hj => by
                            rw [hR2r j hj]
                            exact (reach1_rev HREV.out).symm
                          clear hR2 hR2r hk2 HR1 HK1
                          have HN2 : Hid (w2.rowIs gN 21 n (fun i => .int .i32 (num i : Nat))) := HK2.out.row HNRQ.out (fun h => h)
                          have HM2 : Hid (Mat w2 a2 n M) := HMQ.out.below (HK2.out.below (Nat.le_refl _) (fun x hx => hx.elim))
                          obtain ⟨x, b, cc, hx, hxc, hrow⟩ := HM2.out.row u hun
                          have HROW : Hid (∀ k, k < (M u).length → ∃ y : Addr, b = some y ∧ w2.cell? (y.add k) = some (.int .i64 ((M u).getD k 0 : Nat))) := hrow
                          subst hx
                          have n1 : (0 : Int) ≤ (u : Int) := by omega
                          have n2 : (u : Int) < (n : Int) := by omega
                          clear hrow HM2
                          go_wp2
                          clear hxc
                          obtain ⟨L, hL⟩ : ∃ L, L = (M u).length := ⟨_, rfl⟩
                          have HLL : Hid (L = (M u).length) := hL
                          have hLb : L ≤ 1048576 := by rw [hL]; exact HMLn.out u hun
                          rw [← hL]
                          clear hL
                          have HK8 : Hid (Kept noS w2 w2) := Kept.refl _ _
                          go_loopg [191] L (fun gk z wr => ∃ k : Nat, z = .int .i64 k ∧ k ≤ L ∧ L - k ≤ gk ∧ Hid (Kept noS w2 wr))
                          case atStart => exact ⟨0, rfl, Nat.zero_le _, Nat.le_refl _, HK8⟩
                          case round =>
                            clear HK8
                            obtain ⟨k, rfl, hk8, hgk8, HK8⟩ := hrel
                            by_cases hkn : k < L
                            · as_aux_lemma =>
                                obtain ⟨y, hy, hyc⟩ := HROW.out k (by rw [← HLL.out]; exact hkn)
                                subst hy
                                obtain ⟨t, ht⟩ : ∃ t, t = (M u).getD k 0 := ⟨_, rfl⟩
                                rw [← ht] at hyc
                                have hkM : k < (M u).length := by rw [← HLL.out]; exact hkn
                                have htm : t ∈ M u := by
                                  rw [ht, List.getD_eq_getElem?_getD, List.getElem?_eq_getElem hkM]
                                  exact List.getElem_mem _
                                have htn : t < n := HMR.out u t hun htm
                                have e2 := HK8.out.cell hyc (fun h => h)
                                have d1 := (HK8.out.row HN2.out (fun h => h)).cell htn
                                have d2 := (HK8.out.row HN2.out (fun h => h)).cell hun
                                have d3 := (HK8.out.row HR2.out (fun h => h)).cell htn
                                have n3 : (0 : Int) ≤ (k : Int) := by omega
                                have n4 : (k : Int) < (L : Int) := by omega
                                have n5 : (0 : Int) ≤ (t : Int) := by omega
                                have n6 : (t : Int) < (n : Int) := by omega
                                have HTM : Hid (t ∈ M u) := htm
                                clear hyc ht hkM htm
                                by_cases hge : num u ≤ num t
                                · have hR2t : R2 t = true := (HRR2.out t htn).2 (HNUM.out.back hun htn HTM.out hge)
                                  rw [hR2t] at d3
                                  have hgi : (num u : Int) ≤ (num t : Int) := by omega
                                  have hd : decide ((num u : Int) ≤ (num t : Int)) = true := decide_eq_true hgi
                                  go_wp2
                                  go_quiet (fail)
                                  have HK9 : Hid (Kept noS w2 (wr.drewN nq)) := HK8.out.trans (Kept.drewN noS wr nq) (fun x hx => hx.elim)
                                  clear d1 d2 d3 e2
                                  generalize wr.drewN nq = w9 at *
                                  go_wp2
                                  go_roundg (L - (k + 1))
                                  case measure => omega
                                  case rel => exact ⟨k + 1, by go_num, by omega, Nat.le_refl _, HK9⟩
                                · have hgi : ¬ ((num u : Int) ≤ (num t : Int)) := by omega
                                  have hd : decide ((num u : Int) ≤ (num t : Int)) = false := decide_eq_false hgi
                                  go_wp2
                                  go_quiet (fail)
                                  have HK9 : Hid (Kept noS w2 (wr.drewN nq)) := HK8.out.trans (Kept.drewN noS wr nq) (fun x hx => hx.elim)
                                  clear d1 d2 d3 e2
                                  generalize wr.drewN nq = w9 at *
                                  go_wp2
                                  go_roundg (L - (k + 1))
                                  case measure => omega
                                  case rel => exact ⟨k + 1, by go_num, by omega, Nat.le_refl _, HK9⟩
                            · -- <M
                              have d2 := (HK8.out.row HN2.out (fun h => h)).cell hun
                              clear HROW HLL
                              go_wp2
                              go_quiet (fail)
                              have HK9 : Hid (Kept noS w2 (wr.drewN nq)) := HK8.out.trans (Kept.drewN noS wr nq) (fun x hx => hx.elim)
                              clear d2 HK8
                              generalize wr.drewN nq = w9 at *
                              go_wp2
                              go_loopg [26, 27, 28, 29] n (fun gk v1 v2 v3 v4 wr => ∃ x9 y9 cn t : Nat, v1 = .int .i32 (x9 : Nat) ∧ v2 = .int .i32 (y9 : Nat) ∧ v3 = .int .i64 (cn : Nat) ∧ v4 = .int .i64 (t : Nat) ∧ t ≤ n ∧ n - t ≤ gk ∧ cn ≤ t ∧ Hid (SetTo num hi u t x9 y9 cn) ∧ Hid (Kept noS w2 wr))
                              case atStart => exact ⟨num u, num u, 0, 0, rfl, rfl, rfl, rfl, Nat.zero_le _, Nat.le_refl _, Nat.le_refl _, SetTo.start u, HK9⟩
                              case round =>
                                clear HK9
                                obtain ⟨x9, y9, cn, t, rfl, rfl, rfl, rfl, ht9, hgt9, hcn9, HST9, HK9⟩ := hrel
                                by_cases htn : t < n
                                · -- <N
                                  have d1 := (HK9.out.row HN2.out (fun h => h)).cell htn
                                  have d3 := (HK9.out.row HR1'.out (fun h => h)).cell htn
                                  have d4 := (HK9.out.row HR2.out (fun h => h)).cell htn
                                  have hgrp := HNUM.out.group HMR.out hun htn
                                  have hr1 := HRR1.out t htn
                                  have hr2 := HRR2.out t htn
                                  have n3 : (0 : Int) ≤ (t : Int) := by omega
                                  have n4 : (t : Int) < (n : Int) := by omega
                                  have hkey : ((t : Int) == (u : Int) || (R1 t && R2 t)) = decide (hi t = hi u) := by
                                    rw [Bool.eq_iff_iff]
                                    simp only [Bool.or_eq_true, Bool.and_eq_true, beq_iff_eq, decide_eq_true_eq]
                                    rw [hr1, hr2, ← hgrp]
                                    constructor
                                    · rintro (h | h)
                                      · exact .inl (by omega)
                                      · exact .inr h
                                    · rintro (h | h)
                                      · exact .inl (by omega)
                                      · exact .inr h
                                  have HKEY : Hid (((t : Int) == (u : Int) || (R1 t && R2 t)) = decide (hi t = hi u)) := hkey
                                  clear hkey hgrp hr1 hr2
                                  go_upto_region 67 with fail
                                  go_cut [239] (fun v wx => v = .bool (decide (hi t = hi u)) ∧ wx = wr)
                                  case first =>
                                    by_cases htu : t = u
                                    · have hb : ((t : Int) == (u : Int)) = true := by simp; omega
                                      go_wp2
                                      go_meet
                                      case rel => exact ⟨congrArg Value.bool (by rw [← HKEY.out, hb]; simp), rfl⟩
                                    · have hb : ((t : Int) == (u : Int)) = false := by simp; omega
                                      cases h1 : R1 t
                                      · rw [h1] at d3
                                        go_wp2
                                        go_meet
                                        case rel => exact ⟨congrArg Value.bool (by rw [← HKEY.out, hb, h1]; simp), rfl⟩
                                      · rw [h1] at d3
                                        go_wp2
                                        go_meet
                                        case rel => exact ⟨congrArg Value.bool (by rw [← HKEY.out, hb, h1]; simp), rfl⟩
                                  case rest =>
                                    obtain ⟨rfl, rfl⟩ := hcut
                                    clear HKEY
                                    by_cases hhi : hi t = hi u
                                    · have hdec : decide (hi t = hi u) = true := decide_eq_true hhi
                                      have HHI : Hid (hi t = hi u) := hhi
                                      obtain ⟨ta, tc, hrt, hft, _⟩ := HRZQ.out t htn
                                      obtain ⟨ua, uc, hru, hfu, hzl⟩ := HRZQ.out u hun
                                      rw [HSM.out t u htn hun hhi] at hrt hft
                                      have kQ : Kept noS wQ wc := HK2.out.trans HK9.out (fun x hx => hx.elim)
                                      have hcr1 : wc.cell? ⟨gR, t, none⟩ = some (.slice ta (z u).length tc) := by rw [(kQ.row HRRQ.out (fun h => h)).cell htn, hrt]
                                      have hcr2 : wc.cell? ⟨gR, u, none⟩ = some (.slice ua (z u).length uc) := by rw [(kQ.row HRRQ.out (fun h => h)).cell hun, hru]
                                      have cr1 := fun p : KeptBy wc => p.cell hcr1
                                      have cr2 := fun p : KeptBy wc => p.cell hcr2
                                      have hc9 : ∀ p : KeptBy wc, Calls Try.prog 9 #[.slice ta (z u).length tc, .slice ua (z u).length uc] p.world fun e w'' => e = .returned (.bool true) ∧ ∃ p' : KeptBy wc, w'' = p'.world := fun p =>
                                        KeptBy.call ((same_any ta ua tc uc (z u) p.world (by omega) ((hft.kept kQ).kept p.kept) ((hfu.kept kQ).kept p.kept)).mono (fun e w'' hh => by
                                          obtain ⟨he, m, hm⟩ := hh
                                          exact ⟨he, by rw [hm]; exact Kept.drewN noS _ m⟩))
                                      have hne : Nonempty (KeptBy wc) := KeptBy.ne wc
                                      generalize (z u).length = zl at *
                                      clear hrt hft hru hfu kQ hcr1 hcr2 hhi d3 d4
                                      have hnt : num t < n := HNUM.out.lt t htn
                                      by_cases hlt : num t < x9
                                      · have hlti : (num t : Int) < (x9 : Int) := by omega
                                        by_cases hgt : y9 < num t
                                        · have hgti : (y9 : Int) < (num t : Int) := by omega
                                          as_aux_lemma =>
                                            have HSX : Hid (SetTo num hi u (t + 1) (num t) (num t) (cn + 1)) := by
                                              have h := HST9.out.hit HHI.out
                                              rw [if_pos hlt, if_pos hgt] at h
                                              exact h
                                            go_wp2
                                            refine wp_region_quiet_kept (by kernel_rfl) (by kernel_rfl) ?_
                                            repeat (quiet_step ((go_at_call 9; exact hc9 _)))
                                            refine wpQuiet_nil ?_
                                            intro W2 h2
                                            have hW2 := KeptBy.out h2
                                            clear h2
                                            have HK10 : Hid (Kept noS w2 W2) := HK9.out.trans hW2 (fun x hx => hx.elim)
                                            clear hW2 hc9 cr1 cr2 hne d1
                                            go_wp2
                                            go_roundg (n - (t + 1))
                                            case measure => omega
                                            case rel => exact ⟨num t, num t, cn + 1, t + 1, rfl, rfl, by go_num, by go_num, by omega, by omega, by omega, HSX, HK10⟩
                                        · have hgti : ¬ ((y9 : Int) < (num t : Int)) := by omega
                                          as_aux_lemma =>
                                            have HSX : Hid (SetTo num hi u (t + 1) (num t) (y9) (cn + 1)) := by
                                              have h := HST9.out.hit HHI.out
                                              rw [if_pos hlt, if_neg hgt] at h
                                              exact h
                                            go_wp2
                                            refine wp_region_quiet_kept (by kernel_rfl) (by kernel_rfl) ?_
                                            repeat (quiet_step ((go_at_call 9; exact hc9 _)))
                                            refine wpQuiet_nil ?_
                                            intro W2 h2
                                            have hW2 := KeptBy.out h2
                                            clear h2
                                            have HK10 : Hid (Kept noS w2 W2) := HK9.out.trans hW2 (fun x hx => hx.elim)
                                            clear hW2 hc9 cr1 cr2 hne d1
                                            go_wp2
                                            go_roundg (n - (t + 1))
                                            case measure => omega
                                            case rel => exact ⟨num t, y9, cn + 1, t + 1, rfl, rfl, by go_num, by go_num, by omega, by omega, by omega, HSX, HK10⟩
                                      · have hlti : ¬ ((num t : Int) < (x9 : Int)) := by omega
                                        by_cases hgt : y9 < num t
                                        · have hgti : (y9 : Int) < (num t : Int) := by omega
                                          as_aux_lemma =>
                                            have HSX : Hid (SetTo num hi u (t + 1) (x9) (num t) (cn + 1)) := by
                                              have h := HST9.out.hit HHI.out
                                              rw [if_neg hlt, if_pos hgt] at h
                                              exact h
                                            go_wp2
                                            refine wp_region_quiet_kept (by kernel_rfl) (by kernel_rfl) ?_
                                            repeat (quiet_step ((go_at_call 9; exact hc9 _)))
                                            refine wpQuiet_nil ?_
                                            intro W2 h2
                                            have hW2 := KeptBy.out h2
                                            clear h2
                                            have HK10 : Hid (Kept noS w2 W2) := HK9.out.trans hW2 (fun x hx => hx.elim)
                                            clear hW2 hc9 cr1 cr2 hne d1
                                            go_wp2
                                            go_roundg (n - (t + 1))
                                            case measure => omega
                                            case rel => exact ⟨x9, num t, cn + 1, t + 1, rfl, rfl, by go_num, by go_num, by omega, by omega, by omega, HSX, HK10⟩
                                        · have hgti : ¬ ((y9 : Int) < (num t : Int)) := by omega
                                          as_aux_lemma =>
                                            have HSX : Hid (SetTo num hi u (t + 1) (x9) (y9) (cn + 1)) := by
                                              have h := HST9.out.hit HHI.out
                                              rw [if_neg hlt, if_neg hgt] at h
                                              exact h
                                            go_wp2
                                            refine wp_region_quiet_kept (by kernel_rfl) (by kernel_rfl) ?_
                                            repeat (quiet_step ((go_at_call 9; exact hc9 _)))
                                            refine wpQuiet_nil ?_
                                            intro W2 h2
                                            have hW2 := KeptBy.out h2
                                            clear h2
                                            have HK10 : Hid (Kept noS w2 W2) := HK9.out.trans hW2 (fun x hx => hx.elim)
                                            clear hW2 hc9 cr1 cr2 hne d1
                                            go_wp2
                                            go_roundg (n - (t + 1))
                                            case measure => omega
                                            case rel => exact ⟨x9, y9, cn + 1, t + 1, rfl, rfl, by go_num, by go_num, by omega, by omega, by omega, HSX, HK10⟩
                                    · have hdec : decide (hi t = hi u) = false := decide_eq_false hhi
                                      have HSX : Hid (SetTo num hi u (t + 1) x9 y9 cn) := HST9.out.miss hhi
                                      clear d1 d3 d4 hdec
                                      go_wp2
                                      go_roundg (n - (t + 1))
                                      case measure => omega
                                      case rel => exact ⟨x9, y9, cn, t + 1, rfl, rfl, rfl, by go_num, by omega, by omega, by omega, HSX, HK9⟩
                                  -- N>
                                · as_aux_lemma =>
                                    obtain ⟨hab, hbn, hcnt⟩ := HNUM.out.consecutive hun (by
                                      have e : t = n := by omega
                                      have h := HST9.out
                                      rw [e] at h
                                      exact h)
                                    obtain ⟨dd, hdd⟩ : ∃ dd : Nat, dd = y9 - x9 := ⟨_, rfl⟩
                                    have hsub : (y9 : Int) - (x9 : Int) = (dd : Int) := by omega
                                    have hcnd : ((dd : Int) + 1 != (cn : Int)) = false := by simp; omega
                                    have HRX : Hid (∃ f1 f2 : Nat → Bool, wr.rowIs wQ.heap.size 4 n (fun j => .bool (f1 j)) ∧ wr.rowIs (wQ.heap.size + 1) 4 n (fun j => .bool (f2 j))) := ⟨R1, R2, HK9.out.row HR1'.out (fun h => h), HK9.out.row HR2.out (fun h => h)⟩
                                    have HKX : Hid (Kept noS wQ wr) := HK2.out.trans HK9.out (fun x hx => hx.elim)
                                    have hddn : dd < n := by omega
                                    clear HST9 HK9 hdd
                                    go_wp2
                                    go_roundg (n - (u + 1))
                                    case measure => omega
                                    case rel => exact ⟨u + 1, by go_num, by omega, Nat.le_refl _, HRX, HKX⟩
                              -- M>
                        · as_aux_lemma =>
                            have HBE : Hid (Below w'.heap.size w' wr) := HBQ.out.trans (HKW.out.below HBQ.out.size (fun x hx => hx.elim))
                            clear HRW HKW
                            go_wp2
                            go_ret
                            exact ⟨rfl, HBE.out⟩
            · -- <H
              have hnm2 : ¬ ((n : Int) = (m : Int)) := by omega
              go_wp2
              go_ret
              exact ⟨rfl, HBL.out⟩
              -- H>
end Go.Proofs.Qxb6613158a
