/-
  SPANS AS THEY LIE, and THE WALKS of BinarySearchFunc (47), endingFrom (40), holds (31).
-/
import Derived.Test.Qxb6613158aCmp32
import Derived.Deep.LoopGhost
namespace Go.Proofs.Qxb6613158a
open Go.RowKit
set_option linter.unusedSimpArgs false
set_option linter.unusedVariables false

/-- A list of spans, from the head of a block on. -/
def SpansIn (w : World) (g n : Nat) (f l : Nat → Int) : Prop := ∀ k, k < n → w.cell? ⟨g, k * 2, none⟩ = some (.int .i32 (f k)) ∧ w.cell? ⟨g, k * 2 + 1, none⟩ = some (.int .i32 (l k))

def SpansAt (w : World) (v : Value) (n : Nat) (f l : Nat → Int) : Prop := (v = .slice none 0 0 ∧ n = 0) ∨ ∃ g c, v = .slice (some ⟨g, 0, none⟩) n c ∧ n ≤ c ∧ SpansIn w g n f l

theorem SpansIn.kept {S : Nat → Prop} {w w' : World} {g n : Nat} {f l : Nat → Int} (h : SpansIn w g n f l) (hk : Kept S w w') (hg : ¬ S g) : SpansIn w' g n f l := fun k hk2 => ⟨hk.cell (h k hk2).1 hg, hk.cell (h k hk2).2 hg⟩

/-- A place up to n, and some Boolean. -/
def PairTo (n : Nat) (e : Ending) : Prop := ∃ (i : Nat) (b : Bool), i ≤ n ∧ e = .returned (.tuple #[.int .i64 (i : Nat), .bool b])

set_option maxHeartbeats 2000000 in
set_option maxRecDepth 100000 in
theorem search_any (g c n : Nat) (f l : Nat → Int) (t : Int) (w : World) (hn : n ≤ 1073741824) (h : SpansIn w g n f l) :
    Calls Try.prog 47 #[.slice (some ⟨g, 0, none⟩) n c, .int .i32 t, .func (.func 48) #[] #[]] w fun e w' => PairTo n e ∧ Kept noS w w' := by
  have HS : Hid _ := h
  clear h
  go_enter Try.func47, Try.ntmps47
  go_wp2
  go_loopg [9, 10] n (fun gk x y wr => ∃ i j : Nat, x = .int .i64 i ∧ y = .int .i64 j ∧ i ≤ j ∧ j ≤ n ∧ j - i ≤ gk ∧ Kept noS w wr)
  case atStart => exact ⟨0, n, rfl, rfl, Nat.zero_le _, Nat.le_refl _, Nat.le_refl _, Kept.refl _ _⟩
  case round =>
    obtain ⟨i, j, rfl, rfl, hij, hjn, hgk, hkw⟩ := hrel
    by_cases hlt : i < j
    · obtain ⟨m, hm⟩ : ∃ h : Nat, ((i : Int) + (j : Int)) / 2 = (h : Int) := ⟨(i + j) / 2, by omega⟩
      have k1 : i ≤ m := by omega
      have k2 : m < j := by omega
      have c1 := hkw.cell (HS.out m (by omega)).1 (fun h => h)
      have c2 := hkw.cell (HS.out m (by omega)).2 (fun h => h)
      have p1 : (0 : Int) ≤ (m : Int) := by omega
      have p2 : (m : Int) < (n : Int) := by omega
      have hcl := closure48 (f m) (l m) t
      generalize Lib.compareInt (l m) t = cv at hcl
      generalize f m = fm at *
      generalize l m = lm at *
      by_cases hc : cv < 0
      · have hcd : decide (cv < 0) = true := decide_eq_true hc
        go_wp2_with (go_at_call 48; refine (hcl _).mono ?_; rintro _ w2 ⟨rfl, k3⟩)
        go_roundg (j - (m + 1))
        case measure => omega
        case rel => exact ⟨m + 1, j, by go_num, rfl, by omega, by omega, by omega, hkw.trans k3 (fun x hx => hx.elim)⟩
      · have hcd : decide (cv < 0) = false := decide_eq_false hc
        go_wp2_with (go_at_call 48; refine (hcl _).mono ?_; rintro _ w2 ⟨rfl, k3⟩)
        go_roundg (m - i)
        case measure => omega
        case rel => exact ⟨i, m, rfl, rfl, by omega, by omega, by omega, hkw.trans k3 (fun x hx => hx.elim)⟩
    · obtain rfl : i = j := by omega
      by_cases hin : i < n
      · have hz : (i : Int) < (n : Int) := by omega
        have c1 := hkw.cell (HS.out i hin).1 (fun h => h)
        have c2 := hkw.cell (HS.out i hin).2 (fun h => h)
        have hcl := closure48 (f i) (l i) t
        generalize Lib.compareInt (l i) t = cv at hcl
        generalize f i = fm at *
        generalize l i = lm at *
        have p1 : (0 : Int) ≤ (i : Int) := by omega
        go_wp2_with (go_at_call 48; refine (hcl _).mono ?_; rintro _ w2 ⟨rfl, k3⟩)
        refine bodyPost_ret (by simp [results, Try.results47, go_sem]; try rfl) rfl ?_
        exact ⟨⟨i, _, hjn, rfl⟩, hkw.trans k3 (fun x hx => hx.elim)⟩
      · have hz : ¬ (i : Int) < (n : Int) := by omega
        go_wp2
        refine bodyPost_ret (by simp [results, Try.results47, go_sem]; try rfl) rfl ?_
        exact ⟨⟨i, _, hjn, rfl⟩, hkw⟩

set_option maxHeartbeats 2000000 in
set_option maxRecDepth 100000 in
theorem search_none (t : Int) (w : World) :
    Calls Try.prog 47 #[.slice none 0 0, .int .i32 t, .func (.func 48) #[] #[]] w fun e w' => PairTo 0 e ∧ Kept noS w w' := by
  go_enter Try.func47, Try.ntmps47
  go_wp2
  go_loopw [9, 10] (fun x y wr => x = .int .i64 0 ∧ y = .int .i64 0 ∧ wr = w) (fun _ _ _ => 0)
  case atStart => exact ⟨rfl, rfl, rfl⟩
  case round =>
    obtain ⟨rfl, rfl, rfl⟩ := hrel
    go_wp2
    refine bodyPost_ret (by simp [results, Try.results47, go_sem]; try rfl) rfl ?_
    exact ⟨⟨0, _, Nat.le_refl _, rfl⟩, Kept.refl _ _⟩

/-- A place up to n. -/
def PlaceTo (n : Nat) (e : Ending) : Prop := ∃ i : Nat, i ≤ n ∧ e = .returned (.int .i64 (i : Nat))

set_option maxHeartbeats 2000000 in
set_option maxRecDepth 100000 in
theorem endingFrom_any (v : Value) (n : Nat) (f l : Nat → Int) (t : Int) (w : World) (hn : n ≤ 1073741824) (h : SpansAt w v n f l) :
    Calls Try.prog 40 #[v, .int .i32 t] w fun e w' => PlaceTo n e ∧ Kept noS w w' := by
  have h47 : Calls Try.prog 47 #[v, .int .i32 t, .func (.func 48) #[] #[]] w fun e w' => PairTo n e ∧ Kept noS w w' := by
    rcases h with ⟨rfl, rfl⟩ | ⟨g, c, rfl, _, h⟩
    · exact search_none t w
    · exact search_any g c n f l t w hn h
  clear h
  go_enter Try.func40, Try.ntmps40
  go_wp2_with (go_at_call 47; refine h47.mono ?_; rintro _ w2 ⟨⟨i, b, hi, rfl⟩, hk⟩)
  go_ret
  exact ⟨⟨i, hi, rfl⟩, hk⟩

/-- Some Boolean. -/
def SomeBool (e : Ending) : Prop := ∃ b : Bool, e = .returned (.bool b)

theorem SpansAt.kept {S : Nat → Prop} {w w' : World} {v : Value} {n : Nat} {f l : Nat → Int} (h : SpansAt w v n f l) (hk : Kept S w w') (hg : ∀ g, v.ownBlock = some g → ¬ S g) : SpansAt w' v n f l := by
  rcases h with h | ⟨g, c, hv, hn, h⟩
  · exact .inl h
  · exact .inr ⟨g, c, hv, hn, h.kept hk (hg g (by rw [hv]; rfl))⟩

theorem SpansAt.len {w : World} {v : Value} {n : Nat} {f l : Nat → Int} (h : SpansAt w v n f l) : ∃ a c, v = .slice a n c ∧ ∀ k, k < n → ∃ g, a = some ⟨g, 0, none⟩ ∧ w.cell? ⟨g, k * 2, none⟩ = some (.int .i32 (f k)) ∧ w.cell? ⟨g, k * 2 + 1, none⟩ = some (.int .i32 (l k)) := by
  rcases h with ⟨hv, hn⟩ | ⟨g, c, hv, hn, h⟩
  · exact ⟨none, 0, by rw [hv, hn], fun k hk => by omega⟩
  · exact ⟨some ⟨g, 0, none⟩, c, hv, fun k hk => ⟨g, rfl, h k hk⟩⟩

set_option maxHeartbeats 4000000 in
set_option maxRecDepth 100000 in
theorem holds_any (v1 v2 : Value) (n1 n2 : Nat) (f1 l1 f2 l2 : Nat → Int) (w : World) (hn1 : n1 ≤ 1073741824) (hn2 : n2 ≤ 1073741824) (h1 : SpansAt w v1 n1 f1 l1) (h2 : SpansAt w v2 n2 f2 l2) :
    Calls Try.prog 31 #[v1, v2] w fun e w' => SomeBool e ∧ Kept noS w w' := by
  have H1 : Hid (SpansAt w v1 n1 f1 l1) := h1
  have H2 : Hid (SpansAt w v2 n2 f2 l2) := h2
  obtain ⟨a1, c1, e1, hc1⟩ := h1.len
  obtain ⟨a2, c2, e2, hc2⟩ := h2.len
  subst e1 e2
  have HC1 : Hid _ := hc1
  have HC2 : Hid _ := hc2
  clear h1 h2 hc1 hc2
  go_enter Try.func31, Try.ntmps31
  go_wp2
  go_loopw [10] (fun z wr => ∃ k : Nat, z = .int .i64 k ∧ k ≤ n2 ∧ Kept noS w wr) (fun z _ => n2 - (intOf z).toNat)
  case atStart => exact ⟨0, rfl, Nat.zero_le _, Kept.refl _ _⟩
  case round =>
    obtain ⟨k, rfl, hk, hkw⟩ := hrel
    by_cases hlt : k < n2
    · obtain ⟨g2, rfl, d1, d2⟩ := HC2.out k hlt
      have d1 := hkw.cell d1 (fun h => h)
      have d2 := hkw.cell d2 (fun h => h)
      have h40 := fun W (hW : Kept noS w W) => endingFrom_any (.slice a1 n1 c1) n1 f1 l1 (f2 k) W hn1 (H1.out.kept hW (fun _ _ h => h))
      have H40 : Hid _ := h40
      clear h40
      have kA : Kept noS w (wr.alloc (.cells #[.int .i32 (f2 k), .int .i32 (l2 k)] 85)) := hkw.alloc _
      go_wp2_with (go_at_call 40; refine (H40.out _ kA).mono ?_; rintro _ w2 ⟨⟨i, hi, rfl⟩, k3⟩)
      have kB : Kept noS w w2 := kA.trans k3 (fun x hx => hx.elim)
      have b1 : w2.cell? ⟨wr.heap.size, 0, none⟩ = some (.int .i32 (f2 k)) := k3.cell (by simp) (fun h => h)
      have b2 : w2.cell? ⟨wr.heap.size, 1, none⟩ = some (.int .i32 (l2 k)) := k3.cell (by simp) (fun h => h)
      clear k3 kA d1 d2
      generalize f2 k = F2 at *
      generalize l2 k = L2 at *
      by_cases hin : i < n1
      · obtain ⟨g1, rfl, q1, q2⟩ := HC1.out i hin
        have q1 := kB.cell q1 (fun h => h)
        have q2 := kB.cell q2 (fun h => h)
        generalize f1 i = F1 at *
        generalize l1 i = L1 at *
        have z1 : ((i : Int) == (n1 : Int)) = false := by simp; omega
        have z2 : (0 : Int) ≤ (i : Int) := by omega
        have z3 : (i : Int) < (n1 : Int) := by omega
        by_cases hf : F2 < F1
        · have z4 : decide (F1 > F2) = true := decide_eq_true hf
          go_quiet (fail)
          go_wp2
          go_ret
          exact ⟨⟨_, rfl⟩, kB.trans (Kept.drewN noS _ _) (fun x hx => hx.elim)⟩
        · have z4 : decide (F1 > F2) = false := decide_eq_false hf
          by_cases hl : L1 < L2
          · have z5 : decide (L1 < L2) = true := decide_eq_true hl
            go_quiet (fail)
            go_wp2
            go_ret
            exact ⟨⟨_, rfl⟩, kB.trans (Kept.drewN noS _ _) (fun x hx => hx.elim)⟩
          · have z5 : decide (L1 < L2) = false := decide_eq_false hl
            go_quiet (fail)
            go_wp2
            go_roundw
            case rel => exact ⟨k + 1, by go_num, by omega, kB.trans (Kept.drewN noS _ _) (fun x hx => hx.elim)⟩
            case measure => simp [intOf]; omega
      · have z1 : ((i : Int) == (n1 : Int)) = true := by simp; omega
        go_quiet (fail)
        go_wp2
        go_ret
        exact ⟨⟨_, rfl⟩, kB.trans (Kept.drewN noS _ _) (fun x hx => hx.elim)⟩
    · go_wp2
      go_ret
      exact ⟨⟨_, rfl⟩, hkw⟩
end Go.Proofs.Qxb6613158a
