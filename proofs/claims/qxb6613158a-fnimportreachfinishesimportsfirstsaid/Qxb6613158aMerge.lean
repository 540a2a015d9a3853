/-
  THE WALK of slices.symMergeCmpFunc (38) at the imports' pointers.
-/
import Derived.Test.Qxb6613158aRotate
namespace Go.Proofs.Qxb6613158a
open Go.RowKit
set_option linter.unusedSimpArgs false
set_option linter.unusedVariables false
variable {w0 W W' : World} {g cap n : Nat} {F0 F : Nat → Option Addr} {bx : Value}

set_option maxHeartbeats 4000000 in
set_option maxRecDepth 100000 in
theorem symMerge_any (cd : Nat) (hC : CmpOk w0 g n F0 bx) (hn : n ≤ cap) (hm : n ≤ 1048576) : ∀ (K a m b : Nat) (w : World), b - a ≤ K → a < m → m < b → b ≤ n → SW w0 g cap n F0 w →
    Calls Try.prog 38 #[.slice (some ⟨g, 0, none⟩) n cd, .int .i64 a, .int .i64 m, .int .i64 b, .func (.func 23) #[] #[bx]] w fun e w' => e = .returned (.tuple #[]) ∧ SW w0 g cap n F0 w' := by
  intro K
  induction K with
  | zero => intro a m b w h1 h2 h3; omega
  | succ K ih =>
    intro a m b w hK ham hmb hb hS
    have HS : Hid _ := hS
    have HC : Hid _ := hC
    have IH : Hid _ := ih
    clear hS hC ih
    by_cases h1 : m - a = 1
    · have h1z : (m : Int) - (a : Int) = 1 := by omega
      go_enter Try.func38, Try.ntmps38
      go_wp2
      go_loopg [10, 11] (b - a) (fun gk x y wr => ∃ i j : Nat, x = .int .i64 i ∧ y = .int .i64 j ∧ a < i ∧ i ≤ j ∧ j ≤ b ∧ j - i ≤ gk ∧ Hid (SW w0 g cap n F0 wr))
      case atStart => exact ⟨m, b, rfl, rfl, by omega, by omega, by omega, by omega, HS⟩
      case round =>
        clear HS
        obtain ⟨i, j, rfl, rfl, hai, hij, hjb, hgk, HS⟩ := hrel
        by_cases hlt : i < j
        · obtain ⟨h, hh⟩ : ∃ h : Nat, ((i : Int) + (j : Int)) / 2 = (h : Int) := ⟨(i + j) / 2, by omega⟩
          have k1 : i ≤ h := by omega
          have k2 : h < j := by omega
          obtain ⟨hkw, F, hr, hs⟩ := HS.out
          obtain ⟨c, hc⟩ := HC.out.at (i := h) (j := a) hkw hs (by omega) (by omega)
          have c1 := fun p : KeptBy wr => p.cell (hr.cell (show h < n by omega))
          have c2 := fun p : KeptBy wr => p.cell (hr.cell (show a < n by omega))
          clear hkw hr hs
          have hne : Nonempty (KeptBy wr) := KeptBy.ne wr

          have p1 : (0 : Int) ≤ (h : Int) := by omega
          have p2 : (h : Int) < (n : Int) := by omega
          have p3 : (0 : Int) ≤ (a : Int) := by omega
          have p4 : (a : Int) < (n : Int) := by omega
          by_cases hc0 : c < 0
          · have hcd : decide (c < 0) = true := decide_eq_true hc0
            go_wp2
            refine wp_region_quiet_kept (by kernel_rfl) (by kernel_rfl) ?_
            repeat (quiet_step ((go_at_call 23; exact hc _)))
            refine wpQuiet_nil ?_
            intro W2 h2
            have hW2 := KeptBy.out h2
            clear h2
            have S3 : Hid (SW w0 g cap n F0 W2) := HS.out.more hW2
            clear hW2 c1 c2 hc HS hne

            go_wp2
            go_roundg (j - (h + 1))
            case measure => omega
            case rel => exact ⟨h + 1, j, by go_num, rfl, by omega, by omega, by omega, by omega, S3⟩
          · have hcd : decide (c < 0) = false := decide_eq_false hc0
            go_wp2
            refine wp_region_quiet_kept (by kernel_rfl) (by kernel_rfl) ?_
            repeat (quiet_step ((go_at_call 23; exact hc _)))
            refine wpQuiet_nil ?_
            intro W2 h2
            have hW2 := KeptBy.out h2
            clear h2
            have S3 : Hid (SW w0 g cap n F0 W2) := HS.out.more hW2
            clear hW2 c1 c2 hc HS hne

            go_wp2
            go_roundg (h - i)
            case measure => omega
            case rel => exact ⟨i, h, rfl, rfl, by omega, by omega, by omega, by omega, S3⟩
        · obtain ⟨q, hq⟩ : ∃ q, i = q + 1 := ⟨i - 1, by omega⟩
          have hqz : (i : Int) - 1 = (q : Int) := by omega
          go_wp2
          go_loopg [13] (b - a) (fun gk z wr => ∃ k : Nat, z = .int .i64 k ∧ a ≤ k ∧ k ≤ b ∧ b - k ≤ gk ∧ Hid (SW w0 g cap n F0 wr))
          case atStart => exact ⟨a, rfl, by omega, by omega, by omega, HS⟩
          case round =>
            clear HS
            obtain ⟨k, rfl, hak, hkb, hgk2, HS⟩ := hrel
            by_cases hlt2 : k < q
            · have hz : (k : Int) < (q : Int) := by omega
              obtain ⟨hkw, F, hr, hs⟩ := HS.out
              have d1 := hr.cell (show k < n by omega)
              have d2 := hr.cell (show k + 1 < n by omega)
              have d3 := (hr.set (k) (F (k + 1))).cell (show k + 1 < n by omega)
              rw [if_neg (by omega)] at d3
              have f1 := hr.frozen (k)
              have f2 := hr.frozen (k + 1)
              have S3 : Hid (SW w0 g cap n F0 ((wr.setCell ⟨g, k, none⟩ (.pointer (F (k + 1)))).setCell ⟨g, k + 1, none⟩ (.pointer (F (k)))).drew) := SW.swapped hkw hr hs (by omega) (by omega)
              clear hr hkw hs HS
              generalize F (k) = vi at *
              generalize F (k + 1) = vj at *
              go_wp2
              go_region
              go_wp2

              go_roundg (b - (k + 1))
              case measure => omega
              case rel => exact ⟨k + 1, by go_num, by omega, by omega, by omega, S3⟩
            · have hz : ¬ (k : Int) < (q : Int) := by omega
              go_wp2
              refine bodyPost_ret (results_none rfl _ _ _) rfl ?_
              exact ⟨rfl, HS.out⟩
    · have h1z : ((m : Int) - (a : Int) == 1) = false := by simp; omega
      by_cases h2 : b - m = 1
      · have h2z : (b : Int) - (m : Int) = 1 := by omega
        go_enter Try.func38, Try.ntmps38
        go_wp2
        go_loopg [14, 15] (m - a) (fun gk x y wr => ∃ i j : Nat, x = .int .i64 i ∧ y = .int .i64 j ∧ a ≤ i ∧ i ≤ j ∧ j ≤ m ∧ j - i ≤ gk ∧ Hid (SW w0 g cap n F0 wr))
        case atStart => exact ⟨a, m, rfl, rfl, by omega, by omega, by omega, by omega, HS⟩
        case round =>
          clear HS
          obtain ⟨i, j, rfl, rfl, hai, hij, hjb, hgk, HS⟩ := hrel
          by_cases hlt : i < j
          · obtain ⟨h, hh⟩ : ∃ h : Nat, ((i : Int) + (j : Int)) / 2 = (h : Int) := ⟨(i + j) / 2, by omega⟩
            have k1 : i ≤ h := by omega
            have k2 : h < j := by omega
            obtain ⟨hkw, F, hr, hs⟩ := HS.out
            obtain ⟨c, hc⟩ := HC.out.at (i := m) (j := h) hkw hs (by omega) (by omega)
            have c1 := fun p : KeptBy wr => p.cell (hr.cell (show m < n by omega))
            have c2 := fun p : KeptBy wr => p.cell (hr.cell (show h < n by omega))
            clear hkw hr hs
            have hne : Nonempty (KeptBy wr) := KeptBy.ne wr

            have p1 : (0 : Int) ≤ (h : Int) := by omega
            have p2 : (h : Int) < (n : Int) := by omega
            have p3 : (0 : Int) ≤ (m : Int) := by omega
            have p4 : (m : Int) < (n : Int) := by omega
            by_cases hc0 : c < 0
            · have hcd : decide (c < 0) = true := decide_eq_true hc0
              go_wp2
              refine wp_region_quiet_kept (by kernel_rfl) (by kernel_rfl) ?_
              repeat (quiet_step ((go_at_call 23; exact hc _)))
              refine wpQuiet_nil ?_
              intro W2 h2
              have hW2 := KeptBy.out h2
              clear h2
              have S3 : Hid (SW w0 g cap n F0 W2) := HS.out.more hW2
              clear hW2 c1 c2 hc HS hne

              go_wp2
              go_roundg (h - i)
              case measure => omega
              case rel => exact ⟨i, h, rfl, rfl, by omega, by omega, by omega, by omega, S3⟩
            · have hcd : decide (c < 0) = false := decide_eq_false hc0
              go_wp2
              refine wp_region_quiet_kept (by kernel_rfl) (by kernel_rfl) ?_
              repeat (quiet_step ((go_at_call 23; exact hc _)))
              refine wpQuiet_nil ?_
              intro W2 h2
              have hW2 := KeptBy.out h2
              clear h2
              have S3 : Hid (SW w0 g cap n F0 W2) := HS.out.more hW2
              clear hW2 c1 c2 hc HS hne

              go_wp2
              go_roundg (j - (h + 1))
              case measure => omega
              case rel => exact ⟨h + 1, j, by go_num, rfl, by omega, by omega, by omega, by omega, S3⟩
          · go_wp2
            go_loopg [17] m (fun gk z wr => ∃ k : Nat, z = .int .i64 k ∧ k ≤ m ∧ k ≤ gk ∧ Hid (SW w0 g cap n F0 wr))
            case atStart => exact ⟨m, rfl, by omega, by omega, HS⟩
            case round =>
              clear HS
              obtain ⟨k, rfl, hkm, hgk2, HS⟩ := hrel
              by_cases hlt2 : i < k
              · obtain ⟨q, rfl⟩ : ∃ q, k = q + 1 := ⟨k - 1, by omega⟩
                have hz : (i : Int) < (q : Int) + 1 := by omega
                obtain ⟨hkw, F, hr, hs⟩ := HS.out
                have d1 := hr.cell (show q + 1 < n by omega)
                have d2 := hr.cell (show q < n by omega)
                have d3 := (hr.set (q + 1) (F (q))).cell (show q < n by omega)
                rw [if_neg (by omega)] at d3
                have f1 := hr.frozen (q + 1)
                have f2 := hr.frozen (q)
                have S3 : Hid (SW w0 g cap n F0 ((wr.setCell ⟨g, q + 1, none⟩ (.pointer (F (q)))).setCell ⟨g, q, none⟩ (.pointer (F (q + 1)))).drew) := SW.swapped hkw hr hs (by omega) (by omega)
                clear hr hkw hs HS
                generalize F (q + 1) = vi at *
                generalize F (q) = vj at *
                go_wp2
                go_region
                go_wp2

                go_roundg q
                case measure => omega
                case rel => exact ⟨q, by first | rfl | go_num | (congr 1; omega), by omega, by omega, S3⟩
              · have hz : ¬ (i : Int) < (k : Int) := by omega
                go_wp2
                refine bodyPost_ret (results_none rfl _ _ _) rfl ?_
                exact ⟨rfl, HS.out⟩
      · have h2z : ((b : Int) - (m : Int) == 1) = false := by simp; omega
        obtain ⟨mid, hmid⟩ : ∃ h : Nat, ((a : Int) + (b : Int)) / 2 = (h : Int) := ⟨(a + b) / 2, by omega⟩
        have hm1 : a < mid := by omega
        have hm2 : mid < b := by omega
        have hm3 : 2 * mid ≤ a + b := by omega
        have hm4 : a + b ≤ 2 * mid + 1 := by omega
        obtain ⟨nn, hnn⟩ : ∃ nn : Nat, (mid : Int) + (m : Int) = (nn : Int) := ⟨mid + m, by omega⟩
        obtain ⟨pp, hpp⟩ : ∃ pp : Nat, (nn : Int) - 1 = (pp : Int) := ⟨nn - 1, by omega⟩
        by_cases hmm : mid < m
        · have hmz : (mid : Int) < (m : Int) := by omega
          obtain ⟨s0, hs0⟩ : ∃ s0 : Nat, (nn : Int) - (b : Int) = (s0 : Int) := ⟨nn - b, by omega⟩
          go_enter Try.func38, Try.ntmps38
          go_wp2
          go_loopg [20, 21] (b - a) (fun gk x y wr => ∃ i j : Nat, x = .int .i64 i ∧ y = .int .i64 j ∧ s0 ≤ i ∧ i ≤ j ∧ j ≤ mid ∧ j - i ≤ gk ∧ Hid (SW w0 g cap n F0 wr))
          case atStart => exact ⟨s0, mid, rfl, rfl, by omega, by omega, by omega, by omega, HS⟩
          case round =>
            clear HS
            obtain ⟨i, j, rfl, rfl, hai, hij, hjb, hgk, HS⟩ := hrel
            by_cases hlt : i < j
            · obtain ⟨h, hh⟩ : ∃ h : Nat, ((i : Int) + (j : Int)) / 2 = (h : Int) := ⟨(i + j) / 2, by omega⟩
              have k1 : i ≤ h := by omega
              have k2 : h < j := by omega
              obtain ⟨x, hx⟩ : ∃ x : Nat, (pp : Int) - (h : Int) = (x : Int) := ⟨pp - h, by omega⟩
              have k3 : x < n := by omega
              obtain ⟨hkw, F, hr, hs⟩ := HS.out
              obtain ⟨c, hc⟩ := HC.out.at (i := x) (j := h) hkw hs (by omega) (by omega)
              have c1 := fun p : KeptBy wr => p.cell (hr.cell (show x < n by omega))
              have c2 := fun p : KeptBy wr => p.cell (hr.cell (show h < n by omega))
              clear hkw hr hs
              have hne : Nonempty (KeptBy wr) := KeptBy.ne wr

              have p1 : (0 : Int) ≤ (h : Int) := by omega
              have p2 : (h : Int) < (n : Int) := by omega
              have p3 : (0 : Int) ≤ (x : Int) := by omega
              have p4 : (x : Int) < (n : Int) := by omega
              have r2 : IntKind.i64.wrap ((x : Int)) = (x : Int) := by rw [IntKind.wrap_i64]; omega
              by_cases hc0 : c < 0
              · have hcd : decide (c < 0) = true := decide_eq_true hc0
                go_wp2
                refine wp_region_quiet_kept (by kernel_rfl) (by kernel_rfl) ?_
                repeat (quiet_step ((go_at_call 23; exact hc _)))
                refine wpQuiet_nil ?_
                intro W2 h2
                have hW2 := KeptBy.out h2
                clear h2
                have S3 : Hid (SW w0 g cap n F0 W2) := HS.out.more hW2
                clear hW2 c1 c2 hc HS hne

                go_wp2
                go_roundg (h - i)
                case measure => omega
                case rel => exact ⟨i, h, rfl, rfl, by omega, by omega, by omega, by omega, S3⟩
              · have hcd : decide (c < 0) = false := decide_eq_false hc0
                go_wp2
                refine wp_region_quiet_kept (by kernel_rfl) (by kernel_rfl) ?_
                repeat (quiet_step ((go_at_call 23; exact hc _)))
                refine wpQuiet_nil ?_
                intro W2 h2
                have hW2 := KeptBy.out h2
                clear h2
                have S3 : Hid (SW w0 g cap n F0 W2) := HS.out.more hW2
                clear hW2 c1 c2 hc HS hne

                go_wp2
                go_roundg (j - (h + 1))
                case measure => omega
                case rel => exact ⟨h + 1, j, by go_num, rfl, by omega, by omega, by omega, by omega, S3⟩
            · obtain ⟨st, rfl⟩ : ∃ st, st = i := ⟨i, rfl⟩
              obtain ⟨en, hen⟩ : ∃ en : Nat, (nn : Int) - (st : Int) = (en : Int) := ⟨nn - st, by omega⟩
              have k3 : en ≤ b := by omega
              have hS := HS.out
              clear HS
              by_cases cstmid : st < mid
              · by_cases cast : a < st
                · by_cases cenb : en < b
                  · have zstm : (st : Int) < (m : Int) := by omega
                    have zmen : (m : Int) < (en : Int) := by omega
                    have zast : (a : Int) < (st : Int) := by omega
                    have zstmid : (st : Int) < (mid : Int) := by omega
                    have zmiden : (mid : Int) < (en : Int) := by omega
                    have zenb : (en : Int) < (b : Int) := by omega
                    go_wp2_with (first | (go_at_call 46; refine (rotate_any st m en cd _ _ (by assumption) hn hm (by omega) (by omega) (by omega)).mono ?_; rintro _ w3 ⟨rfl, hS3⟩) | (go_at_call 38; refine (IH.out _ _ _ _ (by omega) (by omega) (by omega) (by omega) (by assumption)).mono ?_; rintro _ w4 ⟨rfl, hS4⟩))
                    go_end0
                    exact ⟨rfl, by assumption⟩
                  · have zstm : (st : Int) < (m : Int) := by omega
                    have zmen : (m : Int) < (en : Int) := by omega
                    have zast : (a : Int) < (st : Int) := by omega
                    have zstmid : (st : Int) < (mid : Int) := by omega
                    have zmiden : (mid : Int) < (en : Int) := by omega
                    have zenb : ¬ (en : Int) < (b : Int) := by omega
                    go_wp2_with (first | (go_at_call 46; refine (rotate_any st m en cd _ _ (by assumption) hn hm (by omega) (by omega) (by omega)).mono ?_; rintro _ w3 ⟨rfl, hS3⟩) | (go_at_call 38; refine (IH.out _ _ _ _ (by omega) (by omega) (by omega) (by omega) (by assumption)).mono ?_; rintro _ w4 ⟨rfl, hS4⟩))
                    go_end0
                    exact ⟨rfl, by assumption⟩
                · by_cases cenb : en < b
                  · have zstm : (st : Int) < (m : Int) := by omega
                    have zmen : (m : Int) < (en : Int) := by omega
                    have zast : ¬ (a : Int) < (st : Int) := by omega
                    have zstmid : (st : Int) < (mid : Int) := by omega
                    have zmiden : (mid : Int) < (en : Int) := by omega
                    have zenb : (en : Int) < (b : Int) := by omega
                    go_wp2_with (first | (go_at_call 46; refine (rotate_any st m en cd _ _ (by assumption) hn hm (by omega) (by omega) (by omega)).mono ?_; rintro _ w3 ⟨rfl, hS3⟩) | (go_at_call 38; refine (IH.out _ _ _ _ (by omega) (by omega) (by omega) (by omega) (by assumption)).mono ?_; rintro _ w4 ⟨rfl, hS4⟩))
                    go_end0
                    exact ⟨rfl, by assumption⟩
                  · have zstm : (st : Int) < (m : Int) := by omega
                    have zmen : (m : Int) < (en : Int) := by omega
                    have zast : ¬ (a : Int) < (st : Int) := by omega
                    have zstmid : (st : Int) < (mid : Int) := by omega
                    have zmiden : (mid : Int) < (en : Int) := by omega
                    have zenb : ¬ (en : Int) < (b : Int) := by omega
                    go_wp2_with (first | (go_at_call 46; refine (rotate_any st m en cd _ _ (by assumption) hn hm (by omega) (by omega) (by omega)).mono ?_; rintro _ w3 ⟨rfl, hS3⟩))
                    go_end0
                    exact ⟨rfl, by assumption⟩
              · by_cases cast : a < st
                · by_cases cenb : en < b
                  · have zstm : (st : Int) < (m : Int) := by omega
                    have zmen : ¬ (m : Int) < (en : Int) := by omega
                    have zast : (a : Int) < (st : Int) := by omega
                    have zstmid : ¬ (st : Int) < (mid : Int) := by omega
                    have zmiden : (mid : Int) < (en : Int) := by omega
                    have zenb : (en : Int) < (b : Int) := by omega
                    go_wp2_with (first | (go_at_call 38; refine (IH.out _ _ _ _ (by omega) (by omega) (by omega) (by omega) (by assumption)).mono ?_; rintro _ w4 ⟨rfl, hS4⟩))
                    go_end0
                    exact ⟨rfl, by assumption⟩
                  · have zstm : (st : Int) < (m : Int) := by omega
                    have zmen : ¬ (m : Int) < (en : Int) := by omega
                    have zast : (a : Int) < (st : Int) := by omega
                    have zstmid : ¬ (st : Int) < (mid : Int) := by omega
                    have zmiden : (mid : Int) < (en : Int) := by omega
                    have zenb : ¬ (en : Int) < (b : Int) := by omega
                    go_wp2
                    go_end0
                    exact ⟨rfl, by assumption⟩
                · by_cases cenb : en < b
                  · have zstm : (st : Int) < (m : Int) := by omega
                    have zmen : ¬ (m : Int) < (en : Int) := by omega
                    have zast : ¬ (a : Int) < (st : Int) := by omega
                    have zstmid : ¬ (st : Int) < (mid : Int) := by omega
                    have zmiden : (mid : Int) < (en : Int) := by omega
                    have zenb : (en : Int) < (b : Int) := by omega
                    go_wp2_with (first | (go_at_call 38; refine (IH.out _ _ _ _ (by omega) (by omega) (by omega) (by omega) (by assumption)).mono ?_; rintro _ w4 ⟨rfl, hS4⟩))
                    go_end0
                    exact ⟨rfl, by assumption⟩
                  · have zstm : (st : Int) < (m : Int) := by omega
                    have zmen : ¬ (m : Int) < (en : Int) := by omega
                    have zast : ¬ (a : Int) < (st : Int) := by omega
                    have zstmid : ¬ (st : Int) < (mid : Int) := by omega
                    have zmiden : (mid : Int) < (en : Int) := by omega
                    have zenb : ¬ (en : Int) < (b : Int) := by omega
                    go_wp2
                    go_end0
                    exact ⟨rfl, by assumption⟩

        · have hmz : ¬ (mid : Int) < (m : Int) := by omega
          go_enter Try.func38, Try.ntmps38
          go_wp2
          go_loopg [20, 21] (b - a) (fun gk x y wr => ∃ i j : Nat, x = .int .i64 i ∧ y = .int .i64 j ∧ a ≤ i ∧ i ≤ j ∧ j ≤ m ∧ j - i ≤ gk ∧ Hid (SW w0 g cap n F0 wr))
          case atStart => exact ⟨a, m, rfl, rfl, by omega, by omega, by omega, by omega, HS⟩
          case round =>
            clear HS
            obtain ⟨i, j, rfl, rfl, hai, hij, hjb, hgk, HS⟩ := hrel
            by_cases hlt : i < j
            · obtain ⟨h, hh⟩ : ∃ h : Nat, ((i : Int) + (j : Int)) / 2 = (h : Int) := ⟨(i + j) / 2, by omega⟩
              have k1 : i ≤ h := by omega
              have k2 : h < j := by omega
              obtain ⟨x, hx⟩ : ∃ x : Nat, (pp : Int) - (h : Int) = (x : Int) := ⟨pp - h, by omega⟩
              have k3 : x < n := by omega
              obtain ⟨hkw, F, hr, hs⟩ := HS.out
              obtain ⟨c, hc⟩ := HC.out.at (i := x) (j := h) hkw hs (by omega) (by omega)
              have c1 := fun p : KeptBy wr => p.cell (hr.cell (show x < n by omega))
              have c2 := fun p : KeptBy wr => p.cell (hr.cell (show h < n by omega))
              clear hkw hr hs
              have hne : Nonempty (KeptBy wr) := KeptBy.ne wr

              have p1 : (0 : Int) ≤ (h : Int) := by omega
              have p2 : (h : Int) < (n : Int) := by omega
              have p3 : (0 : Int) ≤ (x : Int) := by omega
              have p4 : (x : Int) < (n : Int) := by omega
              have r2 : IntKind.i64.wrap ((x : Int)) = (x : Int) := by rw [IntKind.wrap_i64]; omega
              by_cases hc0 : c < 0
              · have hcd : decide (c < 0) = true := decide_eq_true hc0
                go_wp2
                refine wp_region_quiet_kept (by kernel_rfl) (by kernel_rfl) ?_
                repeat (quiet_step ((go_at_call 23; exact hc _)))
                refine wpQuiet_nil ?_
                intro W2 h2
                have hW2 := KeptBy.out h2
                clear h2
                have S3 : Hid (SW w0 g cap n F0 W2) := HS.out.more hW2
                clear hW2 c1 c2 hc HS hne

                go_wp2
                go_roundg (h - i)
                case measure => omega
                case rel => exact ⟨i, h, rfl, rfl, by omega, by omega, by omega, by omega, S3⟩
              · have hcd : decide (c < 0) = false := decide_eq_false hc0
                go_wp2
                refine wp_region_quiet_kept (by kernel_rfl) (by kernel_rfl) ?_
                repeat (quiet_step ((go_at_call 23; exact hc _)))
                refine wpQuiet_nil ?_
                intro W2 h2
                have hW2 := KeptBy.out h2
                clear h2
                have S3 : Hid (SW w0 g cap n F0 W2) := HS.out.more hW2
                clear hW2 c1 c2 hc HS hne

                go_wp2
                go_roundg (j - (h + 1))
                case measure => omega
                case rel => exact ⟨h + 1, j, by go_num, rfl, by omega, by omega, by omega, by omega, S3⟩
            · obtain ⟨st, rfl⟩ : ∃ st, st = i := ⟨i, rfl⟩
              obtain ⟨en, hen⟩ : ∃ en : Nat, (nn : Int) - (st : Int) = (en : Int) := ⟨nn - st, by omega⟩
              have k3 : en ≤ b := by omega
              have hS := HS.out
              clear HS
              by_cases cstm : st < m
              · by_cases cast : a < st
                · by_cases cenb : en < b
                  · have zstm : (st : Int) < (m : Int) := by omega
                    have zmen : (m : Int) < (en : Int) := by omega
                    have zast : (a : Int) < (st : Int) := by omega
                    have zstmid : (st : Int) < (mid : Int) := by omega
                    have zmiden : (mid : Int) < (en : Int) := by omega
                    have zenb : (en : Int) < (b : Int) := by omega
                    go_wp2_with (first | (go_at_call 46; refine (rotate_any st m en cd _ _ (by assumption) hn hm (by omega) (by omega) (by omega)).mono ?_; rintro _ w3 ⟨rfl, hS3⟩) | (go_at_call 38; refine (IH.out _ _ _ _ (by omega) (by omega) (by omega) (by omega) (by assumption)).mono ?_; rintro _ w4 ⟨rfl, hS4⟩))
                    go_end0
                    exact ⟨rfl, by assumption⟩
                  · have zstm : (st : Int) < (m : Int) := by omega
                    have zmen : (m : Int) < (en : Int) := by omega
                    have zast : (a : Int) < (st : Int) := by omega
                    have zstmid : (st : Int) < (mid : Int) := by omega
                    have zmiden : (mid : Int) < (en : Int) := by omega
                    have zenb : ¬ (en : Int) < (b : Int) := by omega
                    go_wp2_with (first | (go_at_call 46; refine (rotate_any st m en cd _ _ (by assumption) hn hm (by omega) (by omega) (by omega)).mono ?_; rintro _ w3 ⟨rfl, hS3⟩) | (go_at_call 38; refine (IH.out _ _ _ _ (by omega) (by omega) (by omega) (by omega) (by assumption)).mono ?_; rintro _ w4 ⟨rfl, hS4⟩))
                    go_end0
                    exact ⟨rfl, by assumption⟩
                · by_cases cenb : en < b
                  · have zstm : (st : Int) < (m : Int) := by omega
                    have zmen : (m : Int) < (en : Int) := by omega
                    have zast : ¬ (a : Int) < (st : Int) := by omega
                    have zstmid : (st : Int) < (mid : Int) := by omega
                    have zmiden : (mid : Int) < (en : Int) := by omega
                    have zenb : (en : Int) < (b : Int) := by omega
                    go_wp2_with (first | (go_at_call 46; refine (rotate_any st m en cd _ _ (by assumption) hn hm (by omega) (by omega) (by omega)).mono ?_; rintro _ w3 ⟨rfl, hS3⟩) | (go_at_call 38; refine (IH.out _ _ _ _ (by omega) (by omega) (by omega) (by omega) (by assumption)).mono ?_; rintro _ w4 ⟨rfl, hS4⟩))
                    go_end0
                    exact ⟨rfl, by assumption⟩
                  · have zstm : (st : Int) < (m : Int) := by omega
                    have zmen : (m : Int) < (en : Int) := by omega
                    have zast : ¬ (a : Int) < (st : Int) := by omega
                    have zstmid : (st : Int) < (mid : Int) := by omega
                    have zmiden : (mid : Int) < (en : Int) := by omega
                    have zenb : ¬ (en : Int) < (b : Int) := by omega
                    go_wp2_with (first | (go_at_call 46; refine (rotate_any st m en cd _ _ (by assumption) hn hm (by omega) (by omega) (by omega)).mono ?_; rintro _ w3 ⟨rfl, hS3⟩))
                    go_end0
                    exact ⟨rfl, by assumption⟩
              · by_cases cstmid : st < mid
                · have zstm : ¬ (st : Int) < (m : Int) := by omega
                  have zast : (a : Int) < (st : Int) := by omega
                  have zstmid : (st : Int) < (mid : Int) := by omega
                  have zmiden : ¬ (mid : Int) < (en : Int) := by omega
                  go_wp2_with (first | (go_at_call 38; refine (IH.out _ _ _ _ (by omega) (by omega) (by omega) (by omega) (by assumption)).mono ?_; rintro _ w4 ⟨rfl, hS4⟩))
                  go_end0
                  exact ⟨rfl, by assumption⟩
                · have zstm : ¬ (st : Int) < (m : Int) := by omega
                  have zast : (a : Int) < (st : Int) := by omega
                  have zstmid : ¬ (st : Int) < (mid : Int) := by omega
                  have zmiden : ¬ (mid : Int) < (en : Int) := by omega
                  go_wp2
                  go_end0
                  exact ⟨rfl, by assumption⟩
end Go.Proofs.Qxb6613158a
