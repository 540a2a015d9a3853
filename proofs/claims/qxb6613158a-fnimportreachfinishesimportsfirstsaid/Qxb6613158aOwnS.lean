/-
  ROWS OF SPANS OF THE CALL's OWN, and AN append OF SPANS ONTO SUCH A ROW.
-/
import Derived.Test.Qxb6613158aSpansOf
import Derived.Deep.AppendSrc
import Derived.Lib.AppendZerosOnto
namespace Go.Proofs.Qxb6613158a
open Go.RowKit
set_option linter.unusedSimpArgs false
set_option linter.unusedVariables false

/-- n spans, as cells. -/
def spanCells (f l : Nat → Int) (n : Nat) : List Value := (List.range (n * 2)).map (fun t => if t % 2 = 0 then .int .i32 (f (t / 2)) else .int .i32 (l (t / 2)))

theorem spanCells_len (f l : Nat → Int) (n : Nat) : (spanCells f l n).length = n * 2 := by simp [spanCells]

theorem spanCells_get (f l : Nat → Int) (n j : Nat) (h : j < n * 2) : (spanCells f l n)[j]? = some (if j % 2 = 0 then .int .i32 (f (j / 2)) else .int .i32 (l (j / 2))) := by
  simp [spanCells, h]

theorem spanCells_one (f l : Nat → Int) (n : Nat) : ∀ u ∈ spanCells f l n, u.oneCell' = true := by
  intro u hu
  obtain ⟨t, _, rfl⟩ := List.mem_map.1 hu
  by_cases h : t % 2 = 0
  · simp only [if_pos h]; rfl
  · simp only [if_neg h]; rfl

theorem SpansIn.cells {w : World} {g n : Nat} {f l : Nat → Int} (h : SpansIn w g n f l) : ∀ j u, (spanCells f l n)[j]? = some u → w.cell? ((⟨g, 0, none⟩ : Addr).add j) = some u := by
  intro j u hj
  have hlt : j < n * 2 := by
    have := (List.getElem?_eq_some_iff.1 hj).1
    rwa [spanCells_len] at this
  rw [spanCells_get f l n j hlt] at hj
  rw [addr_add, Nat.zero_add, ← hj]
  rcases (show j = j / 2 * 2 ∨ j = j / 2 * 2 + 1 by omega) with e | e
  · rw [if_pos (by omega)]
    conv => lhs; rw [e]
    exact (h (j / 2) (by omega)).1
  · rw [if_neg (by omega)]
    conv => lhs; rw [e]
    exact (h (j / 2) (by omega)).2

theorem SpansAt.src {w : World} {v : Value} {n : Nat} {f l : Nat → Int} {tx : TypeId} (h : SpansAt w v n f l) (hk : Try.prog.underlying tx = some (.slice 85)) : Src Try.prog 2 tx v n (spanCells f l n) w := by
  rcases h with ⟨rfl, rfl⟩ | ⟨g, c, rfl, _, h⟩
  · exact Src.ofNil w hk 0
  · exact Src.ofSlice w hk ⟨g, 0, none⟩ n c _ (spanCells_len f l n) h.cells (spanCells_one f l n)

/-- A row of spans that the call owns (nil among these). -/
def OwnS (w : World) (B : Nat) (v : Value) (n : Nat) (f l : Nat → Int) : Prop := (v = .slice none 0 0 ∧ n = 0) ∨ ∃ g cap, v = .slice (some ⟨g, 0, none⟩) n cap ∧ B ≤ g ∧ RowS w g cap n f l

theorem OwnS.at {w : World} {B : Nat} {v : Value} {n : Nat} {f l : Nat → Int} (h : OwnS w B v n f l) : SpansAt w v n f l := by
  rcases h with h | ⟨g, cap, hv, hb, hr⟩
  · exact .inl h
  · exact .inr ⟨g, cap, hv, by obtain ⟨_, _, hn, _⟩ := hr; exact hn, hr.in⟩

/-- Two lists of spans, one behind the other. -/
def behind (n : Nat) (f f' : Nat → Int) : Nat → Int := fun k => if k < n then f k else f' (k - n)

theorem kept_setCells {S : Nat → Prop} {a : World} {g : Nat} (hg : S g ∨ a.heap.size ≤ g) : ∀ (vs : List Value) (o : Nat) (w : World), Kept S a w → Kept S a (w.setCells g o vs)
  | [], _, _, h => h
  | v :: r, o, w, h => kept_setCells hg r (o + 1) _ (h.setCell (p := ⟨g, o, none⟩) hg v)

theorem getD_some {l : List Value} {j : Nat} {u : Value} (h : l[j]? = some u) : l.getD j default = u := by
  rw [List.getD_eq_getElem?_getD, h]; rfl

/-- The new row of an append that grows. -/
theorem grown_row {w : World} {n1 n2 c : Nat} {f1 l1 f2 l2 : Nat → Int} (hc : n1 + n2 ≤ c) :
    RowS (w.drew.alloc (.cells ((spanCells f1 l1 n1 ++ spanCells f2 l2 n2).toArray ++ Builtin.zeroCells (Value.agg #[.int .i32 0, .int .i32 0]).cells (c - (n1 + n2))) 85)) w.heap.size c (n1 + n2) (behind n1 f1 f2) (behind n1 l1 l2) := by
  have hl : (spanCells f1 l1 n1 ++ spanCells f2 l2 n2).length = (n1 + n2) * 2 := by rw [List.length_append, spanCells_len, spanCells_len]; omega
  have hz : (Builtin.zeroCells (Value.agg #[.int .i32 0, .int .i32 0]).cells (c - (n1 + n2))).size = (c - (n1 + n2)) * 2 := by rw [size_zeroCells]; rfl
  generalize hcs : (spanCells f1 l1 n1 ++ spanCells f2 l2 n2).toArray ++ Builtin.zeroCells (Value.agg #[.int .i32 0, .int .i32 0]).cells (c - (n1 + n2)) = cs
  have hsz : cs.size = c * 2 := by rw [← hcs, Array.size_append, hz, List.size_toArray, hl]; omega
  have hget : ∀ j, j < (n1 + n2) * 2 → cs[j]? = (spanCells f1 l1 n1 ++ spanCells f2 l2 n2)[j]? := fun j hj => by
    rw [← hcs, Array.getElem?_append_left (by rw [List.size_toArray, hl]; exact hj), List.getElem?_toArray]
  have hr : (w.drew.alloc (.cells cs 85)).rowIs w.heap.size 85 (c * 2) (fun j => (cs[j]?).getD default) := by
    have h := World.rowIs_alloc w.drew cs 85 (fun j => (cs[j]?).getD default) (fun i hi => by rw [Array.getElem?_eq_getElem hi]; rfl)
    rw [hsz] at h
    exact h
  refine ⟨_, hr, hc, fun k hk => ⟨?_, ?_⟩⟩
  · show (cs[k * 2]?).getD default = .int .i32 (behind n1 f1 f2 k)
    rw [hget _ (by omega)]
    unfold behind
    by_cases h : k < n1
    · rw [if_pos h, List.getElem?_append_left (by rw [spanCells_len]; omega), spanCells_get _ _ _ _ (by omega), if_pos (by omega), show k * 2 / 2 = k by omega]; rfl
    · rw [if_neg h, List.getElem?_append_right (by rw [spanCells_len]; omega), spanCells_len, spanCells_get _ _ _ _ (by omega), if_pos (by omega), show (k * 2 - n1 * 2) / 2 = k - n1 by omega]; rfl
  · show (cs[k * 2 + 1]?).getD default = .int .i32 (behind n1 l1 l2 k)
    rw [hget _ (by omega)]
    unfold behind
    by_cases h : k < n1
    · rw [if_pos h, List.getElem?_append_left (by rw [spanCells_len]; omega), spanCells_get _ _ _ _ (by omega), if_neg (by omega), show (k * 2 + 1) / 2 = k by omega]; rfl
    · rw [if_neg h, List.getElem?_append_right (by rw [spanCells_len]; omega), spanCells_len, spanCells_get _ _ _ _ (by omega), if_neg (by omega), show (k * 2 + 1 - n1 * 2) / 2 = k - n1 by omega]; rfl

/-- THE LAW. -/
theorem append_spans {w : World} {B : Nat} {v1 v2 : Value} {n1 n2 : Nat} {f1 l1 f2 l2 : Nat → Int} (t tx ty : TypeId) (h1 : OwnS w B v1 n1 f1 l1) (h2 : SpansAt w v2 n2 f2 l2) (ht : Try.prog.underlying t = some (.slice 85)) (htx : Try.prog.underlying tx = some (.slice 85))
    (hb : n1 + n2 ≤ 1073741824) (hB : B ≤ w.heap.size) (hnil : v1 = .slice none 0 0 → 0 < n2) :
    ∃ g cap w', (Builtin.append_ #[t, tx] ty #[v1, v2]).run Try.prog w = .ok (.slice (some ⟨g, 0, none⟩) (n1 + n2) cap) w' ∧ B ≤ g ∧ RowS w' g cap (n1 + n2) (behind n1 f1 f2) (behind n1 l1 l2) ∧ Kept (fun b => v1.ownBlock = some b) w w' ∧ (v1.ownBlock = some g ∨ g = w.heap.size) := by
  obtain ⟨i8, hi8, hz0, hz1, hz2⟩ := info_parts info85
  have hs : Src Try.prog i8.size tx v2 n2 (spanCells f2 l2 n2) w := by rw [hz1]; exact h2.src htx
  have kG : ∀ (S : Nat → Prop) (o : Obj), Kept S w (w.drew.alloc o) := fun S o => (Kept.drewN S w 1).alloc o
  rcases h1 with ⟨rfl, rfl⟩ | ⟨g, cap, rfl, hg, hr⟩
  · have hn2 := hnil rfl
    have h := run_append_grow_src w t tx ty 85 i8 _ ht hi8 hz0 none 0 0 [] (run_firstCells_none w.drew i8.size 0 0 0) v2 n2 _ hs (by omega) (by omega) (by rw [hz2]; exact growslice_fits (by omega) (by omega))
    have hr := grown_row (w := w) (n1 := 0) (n2 := n2) (f1 := f1) (l1 := l1) (f2 := f2) (l2 := l2) (grownCap_ge w (0 + n2) 0 85)
    exact ⟨_, _, _, h, hB, hr, kG _ _, .inr rfl⟩
  · by_cases hroom : n1 + n2 ≤ cap
    · obtain ⟨h0, hrow, hn, hh⟩ := hr
      have h := run_append_room_src w t tx ty 85 i8 ht hi8 g 0 n1 cap v2 n2 _ hs hroom
        (fun j hj => by rw [spanCells_len] at hj; rw [hz1, Nat.zero_add, hrow.cell (by omega)]; rfl)
        (fun j hj => hrow.frozen _)
      rw [hz1, Nat.zero_add] at h
      obtain ⟨h', hr', e1, e2⟩ := rowIs_setCells (spanCells f2 l2 n2) (n1 * 2) w h0 hrow
      refine ⟨g, cap, _, h, hg, ⟨h', hr', hroom, fun k hk => ⟨?_, ?_⟩⟩, kept_setCells (S := fun b => (Value.slice (some ⟨g, 0, none⟩) n1 cap).ownBlock = some b) (.inl rfl) _ _ _ (Kept.refl _ _), .inl rfl⟩
      · unfold behind
        by_cases hk1 : k < n1
        · rw [if_pos hk1, e2 _ (by omega)]; exact (hh k hk1).1
        · have := e1 (k * 2 - n1 * 2) (by rw [spanCells_len]; omega)
          rw [show n1 * 2 + (k * 2 - n1 * 2) = k * 2 by omega] at this
          rw [if_neg hk1, this, getD_some (spanCells_get f2 l2 n2 (k * 2 - n1 * 2) (by omega)), if_pos (by omega), show (k * 2 - n1 * 2) / 2 = k - n1 by omega]
      · unfold behind
        by_cases hk1 : k < n1
        · rw [if_pos hk1, e2 _ (by omega)]; exact (hh k hk1).2
        · have := e1 (k * 2 + 1 - n1 * 2) (by rw [spanCells_len]; omega)
          rw [show n1 * 2 + (k * 2 + 1 - n1 * 2) = k * 2 + 1 by omega] at this
          rw [if_neg hk1, this, getD_some (spanCells_get f2 l2 n2 (k * 2 + 1 - n1 * 2) (by omega)), if_neg (by omega), show (k * 2 + 1 - n1 * 2) / 2 = k - n1 by omega]
    · have hold : (Builtin.firstCells i8.size n1 (.slice (some ⟨g, 0, none⟩) n1 cap)).run Try.prog w.drew = .ok (spanCells f1 l1 n1).toArray w.drew := by
        rw [hz1]
        exact run_firstCells_some w.drew 2 n1 ⟨g, 0, none⟩ n1 cap _ (spanCells_len f1 l1 n1) hr.in.cells
      have h := run_append_grow_src w t tx ty 85 i8 _ ht hi8 hz0 (some ⟨g, 0, none⟩) n1 cap _ hold v2 n2 _ hs (by omega) (by omega) (by rw [hz2]; exact growslice_fits (by omega) (by omega))
      have hr2 := grown_row (w := w) (n1 := n1) (n2 := n2) (f1 := f1) (l1 := l1) (f2 := f2) (l2 := l2) (grownCap_ge w (n1 + n2) cap 85)
      exact ⟨_, _, _, h, hB, hr2, kG _ _, .inr rfl⟩
end Go.Proofs.Qxb6613158a
