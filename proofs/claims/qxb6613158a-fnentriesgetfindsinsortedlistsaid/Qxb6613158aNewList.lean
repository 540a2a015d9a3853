/-
  THE WALK of 'ZZnewEntriesList' (12): a list of new nodes, one for each name, in the order given.
-/
import Derived.Test.Qxb6613158aStrs
import Derived.Test.Qxb6613158aSearch
import Derived.OwnWalk
namespace Go.Proofs.Qxb6613158a
open Go.RowKit
set_option linter.unusedSimpArgs false
set_option linter.unusedVariables false

theorem info38 : (Try.prog.info? 38).map (fun i => (i.zero, i.size, i.bytes)) = some (some (.pointer none), 1, 8) := by kernel_rfl

/-- The pointers to the first k nodes. -/
def ptrs (B : Nat → Nat) (k : Nat) : List Value := (List.range k).map fun j => Value.pointer (some ⟨B j, 0, none⟩)

theorem ptrs_succ (B : Nat → Nat) (k b : Nat) : ptrs (fun j => if j = k then b else B j) (k + 1) = ptrs B k ++ [Value.pointer (some ⟨b, 0, none⟩)] := by
  simp only [ptrs, List.range_succ, List.map_append, List.map_cons, List.map_nil, if_true]
  congr 1
  apply List.map_congr_left
  intro j hj
  rw [if_neg (by have := List.mem_range.1 hj; omega)]

/-- Block b is a node that bears the name s. -/
def NodeIs (w : World) (b : Nat) (s : ByteArray) : Prop := ∃ cs, w.heap[b]? = some (.cells cs 94) ∧ cs[1]? = some (.string s)

theorem NodeIs.of_block {w w' : World} {b : Nat} {s : ByteArray} (h : NodeIs w b s) (e : w'.heap[b]? = w.heap[b]?) : NodeIs w' b s := by
  obtain ⟨cs, h1, h2⟩ := h
  exact ⟨cs, e.trans h1, h2⟩

theorem NodeIs.lt {w : World} {b : Nat} {s : ByteArray} (h : NodeIs w b s) : b < w.heap.size := by
  obtain ⟨cs, h1, _⟩ := h
  exact (Array.getElem?_eq_some_iff.1 h1).1

theorem NodeIs.cell {w : World} {b : Nat} {s : ByteArray} (h : NodeIs w b s) : w.cell? ⟨b, 1, none⟩ = some (.string s) := by
  obtain ⟨cs, h1, h2⟩ := h
  simp [World.cell?, h1, h2]

/-- A node lies in no row of pointers. -/
theorem node_ne {w : World} {base b n : Nat} {v : Value} {xs : List Value} {s : ByteArray} (h : w.ownsRow base 38 1 v n xs) (hn : NodeIs w b s) : some b ≠ v.ownBlock := by
  intro e
  obtain ⟨cs, h1, _⟩ := hn
  rcases h.2 with ⟨rfl, _⟩ | ⟨g, cap, cur, rfl, _, hg, _⟩
  · simp [Value.ownBlock] at e
  · simp [Value.ownBlock] at e
    subst e
    rw [h1] at hg
    cases hg

/-- WHAT HAS BEEN BUILT after k rounds. -/
structure Built (w : World) (E k : Nat) (l : List ByteArray) (v : Value) (B : Nat → Nat) (wr : World) : Prop where
  list : wr.cell? ⟨E, 0, none⟩ = some v
  index : wr.cell? ⟨E, 1, none⟩ = some (.map none)
  frozen : wr.frozen? ⟨E, 0, none⟩ = false
  lt : E < wr.heap.size
  row : wr.ownsRow (E + 1) 38 1 v k (ptrs B k)
  node : ∀ j, j < k → NodeIs wr (B j) (l.getD j ByteArray.empty)
  below : Below E w wr

theorem alloc_new (W : World) (o : Obj) : (W.alloc o).heap[W.heap.size]? = some o := by
  show (W.heap.push o)[W.heap.size]? = _
  simp

/-- One round: a new node, a one-cell slice of its address, the append, the store back. -/
theorem Built.next {w : World} {E k : Nat} {l : List ByteArray} {v v' : Value} {B : Nat → Nat} {wr w1 : World} {cs : Array Value} {o : Obj} (h : Built w E k l v B wr) (hw : w.heap.size ≤ E) (hcs : cs[1]? = some (.string (l.getD k ByteArray.empty)))
    (hg : ((wr.alloc (.cells cs 94)).alloc o).grownBy w1 v.ownBlock) (hrow : w1.ownsRow (E + 1) 38 1 v' (k + 1) (ptrs B k ++ [Value.pointer (some ⟨wr.heap.size, 0, none⟩)])) :
    Built w E (k + 1) l v' (fun j => if j = k then wr.heap.size else B j) (w1.setCell ⟨E, 0, none⟩ v') := by
  have hlt := h.lt
  have hEne : some E ≠ v.ownBlock := fun e => by have := (h.row.lt E e.symm).1; omega
  have hold : ∀ b, b < wr.heap.size → some b ≠ v.ownBlock → w1.heap[b]? = wr.heap[b]? := fun b hb hne => by
    rw [hg.block b (by simp; omega) hne, Below.heap_alloc _ _ _ (by simp; omega), Below.heap_alloc _ _ _ hb]
  have hnew : w1.heap[wr.heap.size]? = some (.cells cs 94) := by
    rw [hg.block wr.heap.size (by simp; omega) (fun e => by have := (h.row.lt _ e.symm).2; omega), Below.heap_alloc _ _ _ (by simp), alloc_new]
  have hE := hold E hlt hEne
  have hset : ∀ b, b ≠ E → (w1.setCell ⟨E, 0, none⟩ v').heap[b]? = w1.heap[b]? := fun b hb => Below.heap_setCell _ _ _ _ hb
  have hs1 := hg.size
  have hs2 : wr.heap.size + 2 ≤ w1.heap.size := by simpa using hs1
  refine ⟨?_, ?_, ?_, ?_, ?_, ?_, ?_⟩
  · have hc : w1.cell? ⟨E, 0, none⟩ = some v := (World.cell?_of_block (w := wr) hE).trans h.list
    have hc' := hc
    simp [go_sem, hc']
  · have hc : w1.cell? ⟨E, 1, none⟩ = some (.map none) := (World.cell?_of_block (w := wr) hE).trans h.index
    simp [go_sem, hc]
  · rw [World.frozen?_setCell]
    exact (World.frozen?_of_block (w := wr) hE).trans h.frozen
  · show E < (w1.setCell ⟨E, 0, none⟩ v').heap.size
    simp [World.setCell]
    omega
  · rw [ptrs_succ]
    exact ownsRow_setCell_below hrow (by simp) _
  · intro j hj
    by_cases e : j = k
    · subst e
      rw [if_pos rfl]
      exact ⟨cs, by rw [hset _ (by omega)]; exact hnew, hcs⟩
    · rw [if_neg e]
      have hn := h.node j (by omega)
      have hne := node_ne h.row hn
      refine hn.of_block ?_
      have hbE : B j ≠ E := fun e2 => by
        have h1 := hn.cell
        obtain ⟨c2, h2, _⟩ := hn
        have h3 := h.index
        rw [e2] at h1
        rw [h1] at h3
        cases h3
      rw [hset _ hbE, hold _ hn.lt hne]
  · have hb : Below E w w1 := ((h.below.alloc (by omega) _).alloc (by simp; omega) _).grown hg (by simp; omega) (fun b hb => by have := (h.row.lt b hb).1; omega)
    exact hb.setCell (Nat.le_refl _) _

theorem one_new (W : World) (n : Nat) (hn : W.heap.size = n) (t : TypeId) (x : Value) (j : Nat) (u : Value) (hj : [x][j]? = some u) : (W.alloc (.cells #[x] t)).cell? ((⟨n, 0, none⟩ : Addr).add j) = some u := by
  subst hn
  match j, hj with
  | 0, hj =>
    simp at hj
    subst hj
    rw [addr_add]
    simp only [World.cell?]
    rw [alloc_new]
    rfl

theorem built_start (w : World) (l : List ByteArray) : Built w w.heap.size 0 l (.slice none 0 0) (fun _ => 0) (w.alloc (.cells #[.slice none 0 0, .map none] 89)) :=
  ⟨by simp only [World.cell?]; rw [alloc_new]; rfl, by simp only [World.cell?]; rw [alloc_new]; rfl, by simp only [World.frozen?]; rw [alloc_new]; rfl, by simp, World.ownsRow_nil _ _ _ _, fun j hj => absurd hj (Nat.not_lt_zero j), (Below.refl _ _).alloc (Nat.le_refl _) _⟩

set_option maxHeartbeats 2000000 in
set_option maxRecDepth 100000 in
theorem newList_any (a : Option Addr) (n c : Nat) (l : List ByteArray) (w : World) (h : StrsAt w a n l) (hn : n ≤ 65536) :
    Calls Try.prog 12 #[.slice a n c] w fun e w' => e = .returned (.pointer (some ⟨w.heap.size, 0, none⟩)) ∧ ∃ v B, Built w w.heap.size n l v B w' := by
  obtain ⟨i0, hi, hz0, hz1, hz2⟩ := info_parts info38
  go_enter Try.func12, Try.ntmps12
  go_wp2
  go_loopw [10] (fun z wr => ∃ k : Nat, z = .int .i64 k ∧ k ≤ n ∧ ∃ v B, Built w w.heap.size k l v B wr) (fun z _ => n - (intOf z).toNat)
  case atStart => exact ⟨0, rfl, Nat.zero_le _, _, _, built_start w l⟩
  case round =>
    obtain ⟨k, rfl, hk, v, B, hb⟩ := hrel
    have hcl := hb.list
    have hlt' := hb.lt
    by_cases hlt : k < n
    · obtain ⟨x, rfl, hcx⟩ := (strs_below h (hb.below)).cell k hlt
      have hrow := hb.row
      go_wp2_with (at_builtin; refine wpList_append_own _ rfl _ _ 86 rfl (w.heap.size + 1) 38 i0 (.pointer none) 1 8 Try.underlying86 hi hz0 hz1 hz2 rfl (by decide) _ _ _ rfl ((hrow.alloc _).alloc _) ⟨wr.heap.size + 1, 0, none⟩ 1 1 [.pointer (some ⟨wr.heap.size, 0, none⟩)] rfl rfl ?c1 ?c2 ?c3 ?c4 ?c5 ?_)
      case c1 => intro j u hj; exact one_new _ _ (by simp) 38 _ j u hj
      case c2 => intro u hu; simp at hu; subst hu; rfl
      case c3 => unfold maxLen; omega
      case c4 => omega
      case c5 => simp; omega
      intro v' w1 hown' hgrow _
      have hEne : some w.heap.size ≠ v.ownBlock := fun e => by have := (hrow.lt _ e.symm).1; omega
      have hEb : w1.heap[w.heap.size]? = wr.heap[w.heap.size]? := by
        rw [hgrow.block _ (by simp; omega) hEne, Below.heap_alloc _ _ _ (by simp; omega), Below.heap_alloc _ _ _ hlt']
      have hc0 : w1.cell? ⟨w.heap.size, 0, none⟩ = some v := (World.cell?_of_block (w := wr) hEb).trans hcl
      have hf0 : w1.frozen? ⟨w.heap.size, 0, none⟩ = false := (World.frozen?_of_block (w := wr) hEb).trans hb.frozen
      clear hEb hcl
      obtain ⟨g, cap', hv⟩ : ∃ g cap', v' = .slice (some ⟨g, 0, none⟩) (k + 1) cap' := by
        rcases hown'.2 with ⟨_, h0⟩ | ⟨g, cap', cur, hv, _⟩
        · omega
        · exact ⟨g, cap', hv⟩
      subst hv
      go_wp2
      go_roundw
      case rel => exact ⟨k + 1, by go_num, by omega, _, _, hb.next (Nat.le_refl _) (by simp) hgrow hown'⟩
      case measure => simp [intOf]; omega
    · go_wp2
      go_ret
      obtain rfl : k = n := by omega
      exact ⟨rfl, v, B, hb⟩
end Go.Proofs.Qxb6613158a
