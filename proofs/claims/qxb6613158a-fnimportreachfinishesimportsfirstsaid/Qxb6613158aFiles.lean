/-
  THE FILES AS THEY LIE IN MEMORY, and THE WALKS of cmp.Or (29) and compareFiles (24).
-/
import Derived.Test.Qxb6613158aPMap
import Derived.Test.Qxb6613158aShelf
import Derived.Deep.RegionHeld3
namespace Go.Proofs.Qxb6613158a
open Go.RowKit
set_option linter.unusedSimpArgs false
set_option linter.unusedVariables false

/-- cmp.Or of three. -/
def or3 (x y z : Int) : Int := if x = 0 then (if y = 0 then z else y) else x

set_option maxHeartbeats 1000000 in
set_option maxRecDepth 100000 in
theorem or_any (g : Nat) (x y z : Int) (w : World) (hx : w.cell? ⟨g, 0, none⟩ = some (.int .i64 x)) (hy : w.cell? ⟨g, 1, none⟩ = some (.int .i64 y)) (hz : w.cell? ⟨g, 2, none⟩ = some (.int .i64 z)) :
    Calls Try.prog 29 #[.slice (some ⟨g, 0, none⟩) 3 3] w fun e w' => e = .returned (.int .i64 (or3 x y z)) ∧ w' = w := by
  go_enter Try.func29, Try.ntmps29
  go_wp2
  go_loopw [8] (fun v wr => (v = .int .i64 0 ∨ (v = .int .i64 1 ∧ x = 0) ∨ (v = .int .i64 2 ∧ x = 0 ∧ y = 0) ∨ (v = .int .i64 3 ∧ x = 0 ∧ y = 0 ∧ z = 0)) ∧ wr = w) (fun v _ => 3 - (intOf v).toNat)
  case atStart => exact ⟨.inl rfl, rfl⟩
  case round =>
    obtain ⟨hv, rfl⟩ := hrel
    rcases hv with rfl | ⟨rfl, h0⟩ | ⟨rfl, h0, h1⟩ | ⟨rfl, h0, h1, h2⟩
    · by_cases h : x = 0
      · have hb : (x != 0) = false := by simp [h]
        go_wp2
        go_roundw
        case rel => exact ⟨.inr (.inl ⟨rfl, h⟩), trivial⟩
        case measure => simp [intOf]
      · have hb : (x != 0) = true := by simp [h]
        go_wp2
        go_ret
        exact ⟨by simp [or3, h], rfl⟩
    · by_cases h : y = 0
      · have hb : (y != 0) = false := by simp [h]
        go_wp2
        go_roundw
        case rel => exact ⟨.inr (.inr (.inl ⟨rfl, h0, h⟩)), trivial⟩
        case measure => simp [intOf]
      · have hb : (y != 0) = true := by simp [h]
        go_wp2
        go_ret
        exact ⟨by simp [or3, h0, h], rfl⟩
    · by_cases h : z = 0
      · have hb : (z != 0) = false := by simp [h]
        go_wp2
        go_roundw
        case rel => exact ⟨.inr (.inr (.inr ⟨rfl, h0, h1, h⟩)), trivial⟩
        case measure => simp [intOf]
      · have hb : (z != 0) = true := by simp [h]
        go_wp2
        go_ret
        exact ⟨by simp [or3, h0, h1], rfl⟩
    · go_wp2
      go_ret
      exact ⟨by simp [or3, h0, h1, h2], rfl⟩

theorem info70 : (Try.prog.info? 70).map (fun i => i.size) = some 5 := by kernel_rfl

/-- The files, as they lie. -/
structure Files (w : World) (n : Nat) (sp fp mp : Nat → Nat) (N : Nat → ByteArray) (deg : Nat → Nat) (ip A : Nat → Nat → Nat) : Prop where
  spInj : ∀ i j, i < n → j < n → sp i = sp j → i = j
  src : ∀ i, i < n → ∃ c, w.heap[sp i]? = some (.cells c 70 (0, 0))
  file : ∀ i, i < n → w.cell? ⟨sp i, 0, none⟩ = some (.pointer (some ⟨fp i, 0, none⟩))
  id : ∀ i, i < n → w.cell? ⟨sp i, 1, none⟩ = some (.int .i64 (i : Nat))
  path : ∀ i, i < n → w.cell? ⟨sp i, 2, none⟩ = some (.string (N i))
  targets : ∀ i, i < n → w.cell? ⟨sp i, 4, none⟩ = some (.map (some (mp i)))
  name : ∀ i, i < n → w.cell? ⟨fp i, 0, none⟩ = some (.string (N i))
  all : ∀ i, i < n → ∃ a c, w.cell? ⟨fp i, 7, none⟩ = some (.slice a (deg i) c) ∧ ∀ k, k < deg i → ∃ x : Addr, a = some x ∧ w.cell? (x.add k) = some (.pointer (some ⟨ip i k, 0, none⟩))
  imp : ∀ i k, i < n → k < deg i → ImpAt w (ip i k)
  ipInj : ∀ i j k, i < n → j < deg i → k < deg i → ip i j = ip i k → j = k
  map : ∀ i, i < n → w.heap[mp i]? = some (.map (pEnts (ip i) (fun k => sp (A i k)) (deg i)).toArray (deg i))
  adj : ∀ i k, i < n → k < deg i → A i k < n

theorem heap_lt {w : World} {k : Nat} {o : Obj} (h : w.heap[k]? = some o) : k < w.heap.size := (Array.getElem?_eq_some_iff.1 h).1

theorem Files.below {w w' : World} {n : Nat} {sp fp mp : Nat → Nat} {N : Nat → ByteArray} {deg : Nat → Nat} {ip A : Nat → Nat → Nat} (h : Files w n sp fp mp N deg ip A) (hb : Below w.heap.size w w') : Files w' n sp fp mp N deg ip A := by
  have hc : ∀ {a : Addr} {v : Value}, w.cell? a = some v → w'.cell? a = some v := fun h => (hb.cell (block_lt_of_cell h)).trans h
  have hh : ∀ {k : Nat} {o : Obj}, w.heap[k]? = some o → w'.heap[k]? = some o := fun h => (hb.block _ (heap_lt h)).trans h
  exact ⟨h.spInj, fun i hi => let ⟨c, hc⟩ := h.src i hi; ⟨c, hh hc⟩, fun i hi => hc (h.file i hi), fun i hi => hc (h.id i hi), fun i hi => hc (h.path i hi), fun i hi => hc (h.targets i hi), fun i hi => hc (h.name i hi),
    fun i hi => let ⟨a, c, h1, h2⟩ := h.all i hi; ⟨a, c, hc h1, fun k hk => let ⟨x, h3, h4⟩ := h2 k hk; ⟨x, h3, hc h4⟩⟩,
    fun i k hi hk => let ⟨c, hc⟩ := h.imp i k hi hk; ⟨c, hh hc⟩, h.ipInj, fun i hi => hh (h.map i hi), h.adj⟩

variable {w W : World} {n : Nat} {sp fp mp : Nat → Nat} {N : Nat → ByteArray} {deg : Nat → Nat} {ip A : Nat → Nat → Nat}

/-- Pointers to two files: the same or not. -/
theorem Files.eql_other (h : Files w n sp fp mp N deg ip A) {i j : Nat} (hi : i < n) (hj : j < n) (hne : i ≠ j) :
    (binOp .eql 42 (.pointer (some ⟨sp i, 0, none⟩)) (.pointer (some ⟨sp j, 0, none⟩))).run Try.prog w = .ok (.bool false) w := by
  obtain ⟨t, ht, hs⟩ := Option.map_eq_some_iff.1 info70
  obtain ⟨ci, hci⟩ := h.src i hi
  obtain ⟨cj, hcj⟩ := h.src j hj
  exact run_eql_ptr_other w Try.underlying42 ht (by rw [hs]; decide) (fun e => hne (h.spInj i j hi hj (congrArg Addr.block e))) hci hcj

theorem eql_same42 (w : World) (a : Addr) : (binOp .eql 42 (.pointer (some a)) (.pointer (some a))).run Try.prog w = .ok (.bool true) w := by
  obtain ⟨t, ht, hs⟩ := Option.map_eq_some_iff.1 info70
  exact run_eql_ptr_same w a Try.underlying42 ht

set_option maxHeartbeats 2000000 in
set_option maxRecDepth 100000 in
theorem compare_any (h : Files w n sp fp mp N deg ip A) (i j : Nat) (hi : i < n) (hj : j < n) :
    Calls Try.prog 24 #[.pointer (some ⟨sp i, 0, none⟩), .pointer (some ⟨sp j, 0, none⟩)] w fun e w' => e = .returned (.int .i64 (if i = j then 0 else or3 (Lib.compareBytes (N i).data.toList (N j).data.toList) (Lib.compareBytes (N i).data.toList (N j).data.toList) (Lib.compareInt i j))) ∧ Kept noS w w' := by
  by_cases hij : i = j
  · subst hij
    rw [if_pos rfl]
    have he := eql_same42 w ⟨sp i, 0, none⟩
    clear h
    go_enter Try.func24, Try.ntmps24
    go_wp2
    go_ret
    exact ⟨rfl, Kept.refl _ _⟩
  · rw [if_neg hij]
    have he := h.eql_other hi hj hij
    have a1 := h.file i hi
    have a2 := h.id i hi
    have a3 := h.path i hi
    have a4 := h.name i hi
    have b1 := h.file j hj
    have b2 := h.id j hj
    have b3 := h.path j hj
    have b4 := h.name j hj
    clear h
    generalize N i = Ni at *
    generalize N j = Nj at *
    generalize sp i = si at *
    generalize sp j = sj at *
    generalize fp i = fi at *
    generalize fp j = fj at *
    go_enter Try.func24, Try.ntmps24
    go_wp2
    go_region_held3 (fun W => W.cell? ⟨si, 0, none⟩ = some (.pointer (some ⟨fi, 0, none⟩)) ∧ W.cell? ⟨si, 1, none⟩ = some (.int .i64 (i : Nat)) ∧ W.cell? ⟨si, 2, none⟩ = some (.string Ni) ∧ W.cell? ⟨fi, 0, none⟩ = some (.string Ni) ∧ W.cell? ⟨sj, 0, none⟩ = some (.pointer (some ⟨fj, 0, none⟩)) ∧ W.cell? ⟨sj, 1, none⟩ = some (.int .i64 (j : Nat)) ∧ W.cell? ⟨sj, 2, none⟩ = some (.string Nj) ∧ W.cell? ⟨fj, 0, none⟩ = some (.string Nj)) (go_keep)
      (first
        | (go_at_call 27; refine (Try.strings_Compare _ _ _).mono ?_; rintro _ _ ⟨rfl, rfl⟩)
        | (go_at_call 30; refine (Try.cmp_Compare_int _ _ _).mono ?_; rintro _ _ ⟨rfl, rfl⟩)
        | (go_at_call 29; refine (or_any _ (Lib.compareBytes Ni.data.toList Nj.data.toList) (Lib.compareBytes Ni.data.toList Nj.data.toList) (Lib.compareInt i j) _ (by simp) (by simp) (by simp)).mono ?_; rintro _ _ ⟨rfl, rfl⟩))
    all_goals go_wp2
    all_goals go_ret
    all_goals exact ⟨rfl, (Kept.drewN noS w 1).alloc _⟩
end Go.Proofs.Qxb6613158a
