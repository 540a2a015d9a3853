/-
  THE MEMORY OF newImportReach AS IT BEGINS.
-/
import Derived.Test.Qxb6613158aRun
namespace Go.Proofs.Qxb6613158a
open Go.RowKit Tj
set_option linter.unusedSimpArgs false
set_option linter.unusedVariables false

/-- Blocks laid one behind the other. -/
def allocs (w : World) (l : List Obj) : World := l.foldl World.alloc w

theorem allocs_size : ∀ (l : List Obj) (w : World), (allocs w l).heap.size = w.heap.size + l.length
  | [], w => rfl
  | o :: l, w => by
    show (allocs (w.alloc o) l).heap.size = _
    rw [allocs_size l (w.alloc o)]
    simp
    omega

theorem allocs_kept : ∀ (l : List Obj) (w : World), Kept noS w (allocs w l)
  | [], w => Kept.refl _ _
  | o :: l, w => ((Kept.refl noS w).alloc o).trans (allocs_kept l (w.alloc o)) (fun x hx => hx.elim)

theorem allocs_at : ∀ (l : List Obj) (w : World) (H i : Nat) (o : Obj), w.heap.size = H → l[i]? = some o → (allocs w l).heap[H + i]? = some o
  | [], w, H, i, o, _, h => by cases h
  | a :: l, w, H, 0, o, hH, h => by
    have e : a = o := by simpa using h
    show (allocs (w.alloc a) l).heap[H + 0]? = _
    rw [(allocs_kept l (w.alloc a)).block (H + 0) (by simp; omega) (fun h => h), ← e]
    exact alloc_at w a H hH
  | a :: l, w, H, i + 1, o, hH, h => by
    show (allocs (w.alloc a) l).heap[H + (i + 1)]? = _
    have := allocs_at l (w.alloc a) (H + 1) i o (by simp; omega) (by simpa using h)
    rw [show H + (i + 1) = H + 1 + i by omega]
    exact this

variable {W w wF : World} {H n gN gB gA : Nat} {sp deg : Nat → Nat} {A : Nat → Nat → Nat}

theorem row_made {g t : Nat} {z : Value} (h : W.heap[g]? = some (.cells (madeCells #[z] n) t)) : W.rowIs g t n (fun _ => z) :=
  ⟨_, h, size_madeCells _ _, fun i hi => by simp [madeCells, hi, Nat.mod_one]⟩

theorem row_one {g t : Nat} {z : Value} (h : W.heap[g]? = some (.cells #[z] t)) : W.rowIs g t 1 (fun _ => z) :=
  ⟨_, h, rfl, fun i hi => by
    obtain rfl : i = 0 := by omega
    rfl⟩

theorem res_init (hn : 0 < H + 13) (hN : W.heap[gN]? = some (.cells (madeCells #[.int .i32 0] n) 21)) (hB : W.heap[gB]? = some (.cells (madeCells #[.slice none 0 0] n) 81)) (hA : W.heap[gA]? = some (.cells (madeCells #[.int .i32 0, .int .i32 0] (n * 2)) 85))
    (hS : W.heap[H + 3]? = some (.cells #[.slice (some ⟨gN, 0, none⟩) n n, .slice (some ⟨gB, 0, none⟩) n n, .slice (some ⟨gA, 0, none⟩) n n, .slice none 0 0] 83)) : Res H n gN gB gA W (fun _ => 0) (fun _ => .slice none 0 0) (fun _ => 0) (fun _ => 0) (.slice none 0 0) noS := by
  have ok : SpansOk W n noS (.slice none 0 0) := ⟨0, fun _ => 0, fun _ => 0, .inl ⟨rfl, rfl⟩, ⟨Nat.zero_le _, fun j hj => absurd hj (Nat.not_lt_zero _)⟩, fun g hg => by cases hg⟩
  refine ⟨⟨_, hS, rfl, fun i hi => ?_⟩, row_made hN, row_made hB, ⟨fun _ => .int .i32 0, ⟨_, hA, size_madeCells _ _, fun i hi => ?_⟩, Nat.le_refl _, fun k hk => ⟨rfl, rfl⟩⟩, fun i hi => by omega, fun i hi => ok, ok, fun g hg => hg.elim⟩
  · unfold reachCells
    match i, hi with
    | 0, _ => rfl
    | 1, _ => rfl
    | 2, _ => rfl
    | 3, _ => rfl
  · rcases (show i % 2 = 0 ∨ i % 2 = 1 by omega) with e | e <;> simp [madeCells, hi, e]

theorem mem_init (h4 : W.heap[H + 4]? = some (.cells (madeCells #[.int .i32 0] n) 21)) (h5 : W.heap[H + 5]? = some (.cells #[.slice (some ⟨H + 4, 0, none⟩) n n] 26)) (h6 : W.heap[H + 6]? = some (.cells (madeCells #[.int .i32 0] n) 21)) (h7 : W.heap[H + 7]? = some (.cells #[.slice (some ⟨H + 6, 0, none⟩) n n] 26))
    (h8 : W.heap[H + 8]? = some (.cells (madeCells #[.bool false] n) 4)) (h9 : W.heap[H + 9]? = some (.cells #[.slice (some ⟨H + 8, 0, none⟩) n n] 31)) (h10 : W.heap[H + 10]? = some (.cells #[.slice none 0 0] 41)) (h11 : W.heap[H + 11]? = some (.cells #[.slice none 0 0] 96)) (h12 : W.heap[H + 12]? = some (.cells #[.int .i32 0] 21)) :
    Mem H n sp W St.start (fun _ => false) (.slice none 0 0) (.slice none 0 0) (fun _ => .slice none 0 0) noS :=
  ⟨(row_one h5).cell (show 0 < 1 by omega), row_made h4, (row_one h7).cell (show 0 < 1 by omega), row_made h6, (row_one h9).cell (show 0 < 1 by omega), row_made h8, row_one h12, row_one h10, World.ownsRow_nil _ _ _ _, row_one h11, World.ownsRow_nil _ _ _ _, fun i hi => absurd hi (Nat.not_lt_zero _), fun b hb => (by cases hb), fun q hq => hq.elim⟩

theorem cnt_all {p : Nat → Bool} : ∀ k, (∀ j, j < k → p j = true) → cnt p k = k
  | 0, _ => rfl
  | k + 1, h => by
    unfold cnt
    rw [h k (by omega), cnt_all k (fun j hj => h j (by omega))]
    simp

theorem run_init (hM : Mem H n sp W St.start (fun _ => false) (.slice none 0 0) (.slice none 0 0) (fun _ => .slice none 0 0) noS) (hR : Res H n gN gB gA W (fun _ => 0) (fun _ => .slice none 0 0) (fun _ => 0) (fun _ => 0) (.slice none 0 0) noS) (hf : Below wF.heap.size wF W) :
    Run wF H n gN gB gA sp deg A W St.start (fun _ => false) (.slice none 0 0) (.slice none 0 0) (fun _ => .slice none 0 0) noS (fun _ => .slice none 0 0) (fun _ => 0) (fun _ => 0) (.slice none 0 0) :=
  ⟨Inv.start, hM, hR, fun v hv => ⟨fun h => (by cases h), fun ⟨i, hi, _⟩ => absurd hi (Nat.not_lt_zero _)⟩, by
    have := cnt_all (p := fun j => decide (St.start.f j = 0)) n (fun j hj => rfl)
    show 0 + _ = n
    omega, fun u v hu => absurd rfl hu.2.1, hf⟩

/-- The three rows and the struct, in whatever order they were laid. -/
theorem init_reach (w : World) (l : List Obj) (iN iB iA : Nat) (hl : l.length = 4) (h1 : iN < 3) (h2 : iB < 3) (h3 : iA < 3) (h4 : iN ≠ iB) (h5 : iN ≠ iA) (h6 : iB ≠ iA)
    (hN : l[iN]? = some (.cells (madeCells #[.int .i32 0] n) 21)) (hB : l[iB]? = some (.cells (madeCells #[.slice none 0 0] n) 81)) (hA : l[iA]? = some (.cells (madeCells #[.int .i32 0, .int .i32 0] (n * 2)) 85))
    (hS : l[3]? = some (.cells #[.slice (some ⟨w.heap.size + iN, 0, none⟩) n n, .slice (some ⟨w.heap.size + iB, 0, none⟩) n n, .slice (some ⟨w.heap.size + iA, 0, none⟩) n n, .slice none 0 0] 83)) :
    (∃ gN gB gA, Places w.heap.size gN gB gA ∧ Res w.heap.size n gN gB gA (allocs w l).drew (fun _ => 0) (fun _ => .slice none 0 0) (fun _ => 0) (fun _ => 0) (.slice none 0 0) noS) ∧ Kept noS w (allocs w l).drew ∧ (allocs w l).drew.heap.size = w.heap.size + 4 := by
  refine ⟨⟨w.heap.size + iN, w.heap.size + iB, w.heap.size + iA, by unfold Places; omega, ?_⟩, (allocs_kept l w).trans (Kept.drewN noS _ 1) (fun x hx => hx.elim), ?_⟩
  · exact res_init (by omega) (allocs_at l w _ iN _ rfl hN) (allocs_at l w _ iB _ rfl hB) (allocs_at l w _ iA _ rfl hA) (allocs_at l w _ 3 _ rfl hS)
  · show (allocs w l).heap.size = _
    rw [allocs_size, hl]
end Go.Proofs.Qxb6613158a
