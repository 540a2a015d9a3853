/-
  A WORD FOR FRAMES: 'Kept S w w'': the blocks that were there, but for those in S, are as they were. And two small laws on rows.
-/
import Derived.Test.Qxb6613158aLess
import Derived.Test.Qxb6613158aStrs
import Derived.WalkSmall
import Derived.OwnWalk
namespace Go.Proofs.Qxb6613158a
open Go.RowKit
set_option linter.unusedSimpArgs false
set_option linter.unusedVariables false

structure Kept (S : Nat → Prop) (w w' : World) : Prop where
  os : w'.os = w.os
  tape : w'.tape = w.tape
  output : w'.output = w.output
  size : w.heap.size ≤ w'.heap.size
  block : ∀ k, k < w.heap.size → ¬ S k → w'.heap[k]? = w.heap[k]?

/-- No block at all. -/
def noS : Nat → Prop := fun _ => False

theorem Kept.refl (S : Nat → Prop) (w : World) : Kept S w w := ⟨rfl, rfl, rfl, Nat.le_refl _, fun _ _ _ => rfl⟩

theorem Kept.trans {S T : Nat → Prop} {a b c : World} (h : Kept S a b) (k : Kept T b c) (hT : ∀ x, T x → S x ∨ a.heap.size ≤ x) : Kept S a c :=
  ⟨k.os.trans h.os, k.tape.trans h.tape, k.output.trans h.output, Nat.le_trans h.size k.size, fun i hi hs => by
    have h1 := h.size
    rw [k.block i (by omega) (fun ht => by
      rcases hT i ht with h2 | h2
      · exact hs h2
      · omega), h.block i hi hs]⟩

theorem Kept.mono {S T : Nat → Prop} {a b : World} (h : Kept S a b) (hST : ∀ x, S x → T x) : Kept T a b := ⟨h.os, h.tape, h.output, h.size, fun i hi hs => h.block i hi (fun h2 => hs (hST i h2))⟩

theorem Kept.drewN (S : Nat → Prop) (w : World) (n : Nat) : Kept S w (w.drewN n) := ⟨rfl, rfl, rfl, Nat.le_refl _, fun _ _ _ => rfl⟩

theorem Kept.alloc {S : Nat → Prop} {a w : World} (h : Kept S a w) (o : Obj) : Kept S a (w.alloc o) :=
  ⟨h.os, h.tape, h.output, Nat.le_trans h.size (by simp), fun k hk hs => by
    have := h.size
    rw [Below.heap_alloc _ _ _ (by omega)]
    exact h.block k hk hs⟩

theorem Kept.setCell {S : Nat → Prop} {a w : World} (h : Kept S a w) {p : Addr} (hp : S p.block ∨ a.heap.size ≤ p.block) (u : Value) : Kept S a (w.setCell p u) :=
  ⟨h.os, h.tape, h.output, by have := h.size; simp [World.setCell]; exact this, fun k hk hs => by
    rw [Below.heap_setCell _ _ _ _ (fun e => by
      rcases hp with h2 | h2
      · exact hs (e ▸ h2)
      · omega)]
    exact h.block k hk hs⟩

theorem Kept.grown {S : Nat → Prop} {a w w' : World} {row : Option Nat} (h : Kept S a w) (hg : w.grownBy w' row) (hr : ∀ k, row = some k → S k ∨ a.heap.size ≤ k) : Kept S a w' :=
  ⟨hg.os.trans h.os, hg.tape.trans h.tape, hg.output.trans h.output, Nat.le_trans h.size hg.size, fun k hk hs => by
    have := h.size
    rw [hg.block k (by omega) (fun e => by
      rcases hr k e.symm with h2 | h2
      · exact hs h2
      · omega)]
    exact h.block k hk hs⟩

theorem Kept.of_below {w w' : World} (h : Below w.heap.size w w') : Kept noS w w' := ⟨h.os, h.tape, h.output, h.size, fun k hk _ => h.block k hk⟩

theorem Kept.of_same {w w' : World} (h : Same w w') (S : Nat → Prop) : Kept S w w' := ⟨h.os, h.tape, h.output, by rw [h.heap]; exact Nat.le_refl _, fun k _ _ => by rw [h.heap]⟩

theorem Kept.below {S : Nat → Prop} {w w' : World} (h : Kept S w w') {B : Nat} (hB : B ≤ w.heap.size) (hS : ∀ x, S x → B ≤ x) : Below B w w' :=
  ⟨h.os, h.tape, h.output, h.size, fun k hk => h.block k (by omega) (fun hs => by have := hS k hs; omega)⟩

theorem Kept.cell {S : Nat → Prop} {w w' : World} (h : Kept S w w') {p : Addr} {v : Value} (hc : w.cell? p = some v) (hp : ¬ S p.block) : w'.cell? p = some v :=
  (World.cell?_of_block (w := w) (h.block p.block (block_lt_of_cell hc) hp)).trans hc

theorem Kept.row {S : Nat → Prop} {w w' : World} {g n : Nat} {t : TypeId} {f : Nat → Value} (h : Kept S w w') (hr : w.rowIs g t n f) (hg : ¬ S g) : w'.rowIs g t n f := hr.of_block (h.block g hr.lt hg)

theorem Kept.owns {S : Nat → Prop} {w w' : World} {B n sz : Nat} {e : TypeId} {v : Value} {xs : List Value} (h : Kept S w w') (hr : w.ownsRow B e sz v n xs) (hg : ∀ k, v.ownBlock = some k → ¬ S k) : w'.ownsRow B e sz v n xs := by
  obtain ⟨h1, h2⟩ := hr
  refine ⟨h1, ?_⟩
  rcases h2 with h2 | ⟨g, cap, cur, hv, hb, hh, r⟩
  · exact .inl h2
  · refine .inr ⟨g, cap, cur, hv, hb, ?_, r⟩
    rw [h.block g (Array.getElem?_eq_some_iff.1 hh).1 (hg g (by rw [hv]; rfl))]
    exact hh

theorem alloc_at (W : World) (o : Obj) (n : Nat) (h : W.heap.size = n) : (W.alloc o).heap[n]? = some o := by
  subst h
  show (W.heap.push o)[W.heap.size]? = _
  simp

/-- A new one-cell block, as a source of an append. -/
theorem new_one (W : World) (n : Nat) (hn : W.heap.size = n) (t : TypeId) (x : Value) (j : Nat) (u : Value) (hj : [x][j]? = some u) : (W.alloc (.cells #[x] t)).cell? ((⟨n, 0, none⟩ : Addr).add j) = some u := by
  match j, hj with
  | 0, hj =>
    simp at hj
    subst hj
    rw [addr_add]
    simp only [World.cell?]
    rw [alloc_at _ _ _ hn]
    rfl

/-- An owned row of at least one element is no nil slice. -/
theorem owns_some {w : World} {B n sz : Nat} {e : TypeId} {v : Value} {xs : List Value} (h : w.ownsRow B e sz v n xs) (hn : 0 < n) : ∃ g cap, v = .slice (some ⟨g, 0, none⟩) n cap ∧ B ≤ g ∧ g < w.heap.size := by
  rcases h.2 with ⟨_, h0⟩ | ⟨g, cap, cur, hv, hb, hh, _⟩
  · omega
  · exact ⟨g, cap, hv, hb, (Array.getElem?_eq_some_iff.1 hh).1⟩

/-- A MATRIX OF NUMBERS: a slice of slices of int. -/
structure Mat (w : World) (a : Option Addr) (n : Nat) (A : Nat → List Nat) : Prop where
  row : ∀ i, i < n → ∃ x b c, a = some x ∧ w.cell? (x.add i) = some (.slice b (A i).length c) ∧ ∀ k, k < (A i).length → ∃ y : Addr, b = some y ∧ w.cell? (y.add k) = some (.int .i64 ((A i).getD k 0 : Nat))

theorem Mat.below {w w' : World} {a : Option Addr} {n : Nat} {A : Nat → List Nat} (h : Mat w a n A) (hb : Below w.heap.size w w') : Mat w' a n A :=
  ⟨fun i hi => by
    obtain ⟨x, b, c, hx, hc, hk⟩ := h.row i hi
    refine ⟨x, b, c, hx, (hb.cell (block_lt_of_cell hc)).trans hc, fun k hk2 => ?_⟩
    obtain ⟨y, hy, hc2⟩ := hk k hk2
    exact ⟨y, hy, (hb.cell (block_lt_of_cell hc2)).trans hc2⟩⟩
end Go.Proofs.Qxb6613158a
