/-
  THE WALKS of slices.Grow (41) at nil, slices.Concat (32) at two lists of spans, union (25).
-/
import Derived.Test.Qxb6613158aOwnS
import Derived.Test.Qxb6613158aSortSpans
namespace Go.Proofs.Qxb6613158a
open Go.RowKit
set_option linter.unusedSimpArgs false
set_option linter.unusedVariables false

/-- A new row with room. -/
def NewRow (B : Nat) (w' : World) (e : Ending) : Prop := ∃ g cap, e = .returned (.slice (some ⟨g, 0, none⟩) 0 cap) ∧ B ≤ g ∧ RowS w' g cap 0 (fun _ => 0) (fun _ => 0)

set_option maxHeartbeats 2000000 in
set_option maxRecDepth 100000 in
theorem grow_nil (n : Nat) (w : World) (h0 : 0 < n) (hn : n ≤ 1073741824) :
    Calls Try.prog 41 #[.slice none 0 0, .int .i64 n] w fun e w' => NewRow w.heap.size w' e ∧ Kept noS w w' := by
  obtain ⟨i8, hi8, hz0, hz1, hz2⟩ := info_parts info85
  have h1 : ¬ ((n : Int) < 0) := by omega
  have h2 : (0 : Int) < (n : Int) := by omega
  have hrun := fun ty => Lib.run_append_grow_zeros (P := Try.prog) w 81 3 ty 85 i8 _ .i64 .i64 Try.underlying81 Try.underlying3 hi8 hz0 none 0 0 [] (run_firstCells_none w.drew i8.size 0 0 0) n h0 (by rw [hz1]; omega) (by omega) (by omega) (by rw [hz2]; omega) (by rw [hz2]; exact growslice_fits (by omega) (by omega))
  have hcap := grownCap_ge w (0 + n) 0 85
  have hrow : Hid (RowS (w.drew.alloc (.cells (([] : List Value).toArray ++ Builtin.zeroCells (Value.agg #[.int .i32 0, .int .i32 0]).cells n ++ Builtin.zeroCells (Value.agg #[.int .i32 0, .int .i32 0]).cells (grownCap w (0 + n) 0 85 - (0 + n))) 85)) w.heap.size (grownCap w (0 + n) 0 85) 0 (fun _ => 0) (fun _ => 0)) := by
    generalize hcs : ([] : List Value).toArray ++ Builtin.zeroCells (Value.agg #[.int .i32 0, .int .i32 0]).cells n ++ Builtin.zeroCells (Value.agg #[.int .i32 0, .int .i32 0]).cells (grownCap w (0 + n) 0 85 - (0 + n)) = cs
    have hsz : cs.size = grownCap w (0 + n) 0 85 * 2 := by
      rw [← hcs, Array.size_append, Array.size_append, size_zeroCells, size_zeroCells]
      show 0 + n * 2 + (grownCap w (0 + n) 0 85 - (0 + n)) * 2 = _
      omega
    have h := World.rowIs_alloc w.drew cs 85 (fun j => (cs[j]?).getD default) (fun i hi => by rw [Array.getElem?_eq_getElem hi]; rfl)
    rw [hsz] at h
    exact ⟨_, h, Nat.zero_le _, fun k hk => absurd hk (Nat.not_lt_zero k)⟩
  have hk : Hid (Kept noS w (w.drew.alloc (.cells (([] : List Value).toArray ++ Builtin.zeroCells (Value.agg #[.int .i32 0, .int .i32 0]).cells n ++ Builtin.zeroCells (Value.agg #[.int .i32 0, .int .i32 0]).cells (grownCap w (0 + n) 0 85 - (0 + n))) 85))) := (show Kept noS w _ from (Kept.drewN noS w 1).alloc _)
  have HRUN : Hid _ := hrun
  clear hrun
  generalize w.drew.alloc (.cells (([] : List Value).toArray ++ Builtin.zeroCells (Value.agg #[.int .i32 0, .int .i32 0]).cells n ++ Builtin.zeroCells (Value.agg #[.int .i32 0, .int .i32 0]).cells (grownCap w (0 + n) 0 85 - (0 + n))) 85) = W2 at *
  generalize grownCap w (0 + n) 0 85 = cp at *
  go_enter Try.func41, Try.ntmps41
  go_wp2_with (at_builtin; refine wpList_append_run rfl _ _ 81 3 rfl _ _ _ rfl rfl (HRUN.out _) ?_)
  go_ret
  exact ⟨⟨_, _, rfl, Nat.le_refl _, hrow.out⟩, hk.out⟩

theorem RowS.congr {w : World} {g cap n : Nat} {f l f' l' : Nat → Int} (h : RowS w g cap n f l) (hf : ∀ k, k < n → f k = f' k) (hl : ∀ k, k < n → l k = l' k) : RowS w g cap n f' l' := by
  obtain ⟨h0, hr, hn, hh⟩ := h
  exact ⟨h0, hr, hn, fun k hk => ⟨by rw [← hf k hk]; exact (hh k hk).1, by rw [← hl k hk]; exact (hh k hk).2⟩⟩

theorem own_ge_of {g x n cap B : Nat} (h : (Value.slice (some ⟨g, 0, none⟩) n cap).ownBlock = some x) (hg : B ≤ g) : B ≤ x := by
  have : g = x := by simpa [Value.ownBlock] using h
  omega

/-- A new row that holds both lists. -/
def BothRow (B : Nat) (n : Nat) (f l : Nat → Int) (w' : World) (e : Ending) : Prop := ∃ g cap, e = .returned (.slice (some ⟨g, 0, none⟩) n cap) ∧ B ≤ g ∧ RowS w' g cap n f l

set_option maxHeartbeats 4000000 in
set_option maxRecDepth 100000 in
theorem concat_any (b n1 n2 : Nat) (v1 v2 : Value) (f1 l1 f2 l2 : Nat → Int) (w : World) (hv1 : w.cell? ⟨b, 0, none⟩ = some v1) (hv2 : w.cell? ⟨b, 1, none⟩ = some v2) (h1 : SpansAt w v1 n1 f1 l1) (h2 : SpansAt w v2 n2 f2 l2) (hn : n1 + n2 ≤ 1073741824) (hn0 : 0 < n1 + n2) :
    Calls Try.prog 32 #[.slice (some ⟨b, 0, none⟩) 2 2] w fun e w' => BothRow w.heap.size (n1 + n2) (behind n1 f1 f2) (behind n1 l1 l2) w' e ∧ Kept noS w w' := by
  have H1 : Hid (SpansAt w v1 n1 f1 l1) := h1
  have H2 : Hid (SpansAt w v2 n2 f2 l2) := h2
  obtain ⟨a1, c1, e1, _⟩ := h1.len
  obtain ⟨a2, c2, e2, _⟩ := h2.len
  subst e1 e2
  clear h1 h2
  go_enter Try.func32, Try.ntmps32
  go_wp2
  go_loopw [3, 11] (fun x z wr => ((z = .int .i64 0 ∧ x = .int .i64 0) ∨ (z = .int .i64 1 ∧ x = .int .i64 (n1 : Nat)) ∨ (z = .int .i64 2 ∧ x = .int .i64 ((n1 + n2 : Nat) : Int))) ∧ Kept noS w wr) (fun _ z _ => 2 - (intOf z).toNat)
  case atStart => exact ⟨.inl ⟨rfl, rfl⟩, Kept.refl _ _⟩
  case round =>
    obtain ⟨hz, hkw⟩ := hrel
    have d1 := hkw.cell hv1 (fun h => h)
    have d2 := hkw.cell hv2 (fun h => h)
    rcases hz with ⟨rfl, rfl⟩ | ⟨rfl, rfl⟩ | ⟨rfl, rfl⟩
    · go_wp2
      go_roundw
      case rel => exact ⟨.inr (.inl ⟨rfl, by first | rfl | go_num⟩), hkw⟩
      case measure => simp [intOf]
    · go_wp2
      go_roundw
      case rel => exact ⟨.inr (.inr ⟨rfl, by first | rfl | go_num⟩), hkw⟩
      case measure => simp [intOf]
    · obtain ⟨nn, hnn⟩ : ∃ nn : Nat, nn = n1 + n2 := ⟨_, rfl⟩
      rw [← hnn]
      have hgr := fun W => grow_nil nn W (by omega) (by omega)
      clear hnn
      go_wp2_with (go_at_call 41; refine (hgr _).mono ?_; rintro _ w2 ⟨⟨g, cap, rfl, hg, hr⟩, hk2⟩)
      have HR : Hid (RowS w2 g cap 0 (fun _ => 0) (fun _ => 0)) := hr
      have hk3 : Kept noS w w2 := hkw.trans hk2 (fun x hx => hx.elim)
      have hs := hkw.size
      clear hr hk2 hgr
      go_wp2
      go_loopw [6, 27] (fun x z wr => (∃ (g cap : Nat), w.heap.size ≤ g ∧ ((x = .slice (some ⟨g, 0, none⟩) 0 cap ∧ z = .int .i64 0 ∧ Hid (RowS wr g cap 0 (fun _ => 0) (fun _ => 0))) ∨ (x = .slice (some ⟨g, 0, none⟩) n1 cap ∧ z = .int .i64 1 ∧ Hid (RowS wr g cap n1 f1 l1)) ∨ (x = .slice (some ⟨g, 0, none⟩) (n1 + n2) cap ∧ z = .int .i64 2 ∧ Hid (RowS wr g cap (n1 + n2) (behind n1 f1 f2) (behind n1 l1 l2))))) ∧ Kept noS w wr) (fun _ z _ => 2 - (intOf z).toNat)
      case atStart => exact ⟨⟨g, cap, by omega, .inl ⟨rfl, rfl, HR⟩⟩, hk3⟩
      case round =>
        clear HR hk3
        obtain ⟨⟨g, cap, hg, hcase⟩, hkw⟩ := hrel
        have d1 := hkw.cell hv1 (fun h => h)
        have d2 := hkw.cell hv2 (fun h => h)
        have hsz := hkw.size
        rcases hcase with ⟨rfl, rfl, HR⟩ | ⟨rfl, rfl, HR⟩ | ⟨rfl, rfl, HR⟩
        · have own : OwnS wr w.heap.size (.slice (some ⟨g, 0, none⟩) 0 cap) 0 (fun _ => 0) (fun _ => 0) := .inr ⟨g, cap, rfl, hg, HR.out⟩
          obtain ⟨g', cap', w', hrun, hg', hr', hk', _⟩ := append_spans 81 81 81 own (H1.out.kept hkw (fun _ _ h => h)) Try.underlying81 Try.underlying81 (by omega) hsz (fun h => by cases h)
          rw [Nat.zero_add] at hrun hr'
          have HRUN : Hid _ := hrun
          have HR' : Hid (RowS w' g' cap' n1 f1 l1) := (show RowS w' g' cap' n1 f1 l1 from RowS.congr hr' (fun k hk => by simp [behind]) (fun k hk => by simp [behind]))
          have hk4 : Kept noS w w' := hkw.trans hk' (fun x hx => .inr (own_ge_of hx hg))
          clear own hrun hr' hk'
          go_wp2_with (at_builtin; refine wpList_append_run rfl _ _ 81 81 rfl _ _ _ rfl rfl HRUN.out ?_)
          go_roundw
          case rel => exact ⟨⟨g', cap', hg', .inr (.inl ⟨rfl, rfl, HR'⟩)⟩, hk4⟩
          case measure => simp [intOf]
        · have own : OwnS wr w.heap.size (.slice (some ⟨g, 0, none⟩) n1 cap) n1 f1 l1 := .inr ⟨g, cap, rfl, hg, HR.out⟩
          obtain ⟨g', cap', w', hrun, hg', hr', hk', _⟩ := append_spans 81 81 81 own (H2.out.kept hkw (fun _ _ h => h)) Try.underlying81 Try.underlying81 (by omega) hsz (fun h => by cases h)
          have HRUN : Hid _ := hrun
          have HR' : Hid (RowS w' g' cap' (n1 + n2) (behind n1 f1 f2) (behind n1 l1 l2)) := hr'
          have hk4 : Kept noS w w' := hkw.trans hk' (fun x hx => .inr (own_ge_of hx hg))
          clear own hrun hr' hk'
          go_wp2_with (at_builtin; refine wpList_append_run rfl _ _ 81 81 rfl _ _ _ rfl rfl HRUN.out ?_)
          go_roundw
          case rel => exact ⟨⟨g', cap', hg', .inr (.inr ⟨rfl, rfl, HR'⟩)⟩, hk4⟩
          case measure => simp [intOf]
        · go_wp2
          go_ret
          exact ⟨⟨g, cap, rfl, hg, HR.out⟩, hkw⟩

/-- Spans within [0, N), no more than N of them. -/
def Valid (N n : Nat) (f l : Nat → Int) : Prop := n ≤ N ∧ ∀ j, j < n → 0 ≤ f j ∧ f j ≤ l j ∧ l j < N

/-- What union hands back: one of the two, or something new. -/
def UnionTo (N B : Nat) (v1 v2 : Value) (w' : World) (e : Ending) : Prop := ∃ v n f l, e = .returned v ∧ SpansAt w' v n f l ∧ Valid N n f l ∧ (v = v1 ∨ v = v2 ∨ ∀ g, v.ownBlock = some g → B ≤ g ∧ g < w'.heap.size)

set_option maxHeartbeats 2000000 in
set_option maxRecDepth 100000 in
theorem union_any (N n1 n2 : Nat) (v1 v2 : Value) (f1 l1 f2 l2 : Nat → Int) (w : World) (hN : N ≤ 4096) (h1 : SpansAt w v1 n1 f1 l1) (h2 : SpansAt w v2 n2 f2 l2) (g1 : Valid N n1 f1 l1) (g2 : Valid N n2 f2 l2) (hn0 : 0 < n1 + n2) :
    Calls Try.prog 25 #[v1, v2] w fun e w' => UnionTo N w.heap.size v1 v2 w' e ∧ Kept noS w w' := by
  have H1 : Hid (SpansAt w v1 n1 f1 l1) := h1
  have H2 : Hid (SpansAt w v2 n2 f2 l2) := h2
  have hb1 := g1.1
  have hb2 := g2.1
  have G1 : Hid (Valid N n1 f1 l1) := g1
  have G2 : Hid (Valid N n2 f2 l2) := g2
  have hh : ∀ x y, (x = v1 ∧ y = v2 ∨ x = v2 ∧ y = v1) → ∀ W, Kept noS w W → Calls Try.prog 31 #[x, y] W fun e w' => SomeBool e ∧ Kept noS w w' := by
    rintro x y (⟨rfl, rfl⟩ | ⟨rfl, rfl⟩) W hW
    · exact (holds_any x y n1 n2 f1 l1 f2 l2 W (by omega) (by omega) (h1.kept hW (fun _ _ h => h)) (h2.kept hW (fun _ _ h => h))).mono fun _ _ ⟨a, b⟩ => ⟨a, hW.trans b (fun x hx => hx.elim)⟩
    · exact (holds_any x y n2 n1 f2 l2 f1 l1 W (by omega) (by omega) (h2.kept hW (fun _ _ h => h)) (h1.kept hW (fun _ _ h => h))).mono fun _ _ ⟨a, b⟩ => ⟨a, hW.trans b (fun x hx => hx.elim)⟩
  have HH : Hid _ := hh
  have kR := Kept.refl noS w
  obtain ⟨a1, c1, e1, _⟩ := h1.len
  obtain ⟨a2, c2, e2, _⟩ := h2.len
  subst e1 e2
  have hcat : ∀ W, Kept noS w W → Calls Try.prog 32 #[.slice (some ⟨W.heap.size, 0, none⟩) 2 2] (W.alloc (.cells #[.slice a1 n1 c1, .slice a2 n2 c2] 81)) fun e w' => BothRow w.heap.size (n1 + n2) (behind n1 f1 f2) (behind n1 l1 l2) w' e ∧ Kept noS w w' := fun W hW =>
    (concat_any W.heap.size n1 n2 _ _ f1 l1 f2 l2 (W.alloc (.cells #[.slice a1 n1 c1, .slice a2 n2 c2] 81)) (by simp) (by simp) (h1.kept (hW.alloc _) (fun _ _ h => h)) (h2.kept (hW.alloc _) (fun _ _ h => h)) (by omega) hn0).mono fun _ _ ⟨⟨g, cap, he, hg, hr⟩, hk⟩ => ⟨⟨g, cap, he, by have := hW.size; simp at hg; omega, hr⟩, (hW.alloc _).trans hk (fun x hx => hx.elim)⟩
  have hval : ∀ j, j < n1 + n2 → 0 ≤ behind n1 f1 f2 j ∧ behind n1 f1 f2 j ≤ behind n1 l1 l2 j ∧ behind n1 l1 l2 j < N := fun j hj => by
    unfold behind
    by_cases h : j < n1
    · simp only [if_pos h]; exact g1.2 j h
    · simp only [if_neg h]; exact g2.2 (j - n1) (by omega)
  have hsp : ∀ g cap W, w.heap.size ≤ g → Kept noS w W → RowS W g cap (n1 + n2) (behind n1 f1 f2) (behind n1 l1 l2) → Calls Try.prog 26 #[.slice (some ⟨g, 0, none⟩) (n1 + n2) cap] W fun e w' => UnionTo N w.heap.size (.slice a1 n1 c1) (.slice a2 n2 c2) w' e ∧ Kept noS w w' := fun g cap W hg hW hr =>
    (spansOf_any sortOk g cap (n1 + n2) N _ _ W hn0 (by omega) hN hr hval).mono fun _ w' ⟨⟨m, f', l', he, hr', hm, hv⟩, hk⟩ => ⟨⟨_, m, f', l', he, .inr ⟨g, cap, rfl, by obtain ⟨_, _, hn, _⟩ := hr'; exact hn, hr'.in⟩, ⟨hm, hv⟩, .inr (.inr (fun x hx => by
      have : g = x := by simpa [Value.ownBlock] using hx
      have := hr'.lt
      omega))⟩, hW.trans hk (fun x hx => .inr (by omega))⟩
  have HCAT : Hid _ := hcat
  have HSP : Hid _ := hsp
  clear h1 h2 g1 g2 hh hcat hsp hval
  go_enter Try.func25, Try.ntmps25
  go_wp2_with (first | (go_at_call 31; refine (HH.out _ _ (by first | exact .inl ⟨rfl, rfl⟩ | exact .inr ⟨rfl, rfl⟩) _ (by assumption)).mono ?_; rintro _ w2 ⟨⟨b, rfl⟩, k2⟩) | (go_at_call 32; refine (HCAT.out _ (by assumption)).mono ?_; rintro _ w3 ⟨⟨g, cap, rfl, hg, hr⟩, k3⟩) | (go_at_call 26; refine (HSP.out _ _ _ (by assumption) (by assumption) (by assumption)).mono ?_; rintro _ w4 ⟨⟨v, m, f', l', rfl, q1, q2, q3⟩, k4⟩))
  · go_ret
    exact ⟨⟨_, n1, f1, l1, rfl, H1.out.kept k2 (fun _ _ h => h), G1.out, .inl rfl⟩, k2⟩
  · go_ret
    exact ⟨⟨_, n2, f2, l2, rfl, H2.out.kept k2 (fun _ _ h => h), G2.out, .inr (.inl rfl)⟩, k2⟩
  · go_ret
    exact ⟨⟨_, m, f', l', rfl, q1, q2, q3⟩, k4⟩
end Go.Proofs.Qxb6613158a
