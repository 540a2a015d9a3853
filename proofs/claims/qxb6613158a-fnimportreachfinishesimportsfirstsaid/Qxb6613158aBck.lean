/-
  THE REVERSED LISTS THAT THE LAW LAYS.
-/
import Derived.Test.Qxb6613158aLay
import Derived.Test.Qxb6613158aRes
namespace Go.Proofs.Qxb6613158a
open Go.RowKit Tj
set_option linter.unusedSimpArgs false
set_option linter.unusedVariables false

theorem info3b : (Try.prog.info? 3).map (fun i => (i.zero, i.size, i.bytes)) = some (some (.int .i64 0), 1, 8) := by kernel_rfl

def ivals (L : List Nat) : List Value := L.map (fun x => .int .i64 (x : Nat))
theorem ivals_length (L : List Nat) : (ivals L).length = L.length := by simp [ivals]

theorem sumTo_mem (f : Nat → Nat) : ∀ {n i : Nat}, i < n → f i ≤ sumTo f n
  | 0, i, h => absurd h (Nat.not_lt_zero _)
  | n + 1, i, h => by
    show f i ≤ sumTo f n + f n
    by_cases e : i = n
    · rw [e]; omega
    · have := sumTo_mem f (n := n) (i := i) (by omega)
      omega

structure Bck (w : World) (G n : Nat) (M : Nat → List Nat) (i k : Nat) (B : Nat → List Nat) (res : Nat → Value) : Prop where
  rr : w.rowIs G 25 n res
  rs : Rws w (G + 1) 3 n res (fun j => ivals (B j))
  mem : ∀ j x, x ∈ B j ↔ (x < i ∧ j ∈ M x) ∨ (x = i ∧ j ∈ (M i).take k)
  len : ∀ j, (B j).length ≤ sumTo (fun i => (M i).length) i + k

variable {w w' : World} {G n : Nat} {M : Nat → List Nat} {i k : Nat} {B : Nat → List Nat} {res : Nat → Value}

theorem Bck.zero (w : World) (n : Nat) (M : Nat → List Nat) : Bck (w.alloc (.cells (madeCells #[.slice none 0 0] n) 25)) w.heap.size n M 0 0 (fun _ => []) (fun _ => .slice none 0 0) :=
  ⟨World.rowIs_made w _ n 25, ⟨fun j hj => ⟨rfl, .inl ⟨rfl, rfl⟩⟩, fun j k g _ _ _ hg => by cases hg⟩, fun j x => by simp, fun j => by simp⟩

theorem Bck.step (h : Bck w G n M i (M i).length B res) : Bck w G n M (i + 1) 0 B res := by
  refine ⟨h.rr, h.rs, fun j x => ?_, fun j => ?_⟩
  · rw [h.mem j x]
    simp only [List.take_length, List.take_zero, List.not_mem_nil, and_false, or_false]
    constructor
    · rintro (⟨h1, h2⟩ | ⟨h1, h2⟩)
      · exact ⟨by omega, h2⟩
      · rw [h1]; exact ⟨by omega, h2⟩
    · rintro ⟨h1, h2⟩
      by_cases e : x = i
      · rw [e] at h2; exact .inr ⟨e, h2⟩
      · exact .inl ⟨by omega, h2⟩
  · exact h.len j

theorem Bck.form (h : Bck w G n M i k B res) {j : Nat} (hj : j < n) : w.ownsRow (G + 1) 3 1 (res j) (B j).length (ivals (B j)) := by
  have h1 := h.rs.own j hj
  rw [ivals_length] at h1
  exact h1

theorem Bck.app (h : Bck w G n M i k B res) {j : Nat} (hj : j < n) (hb : (B j).length ≤ 1048576) {W : World} {q x : Nat} {t : TypeId} {fr : Nat × Nat} (hk : Kept noS w W) (hc : W.heap[q]? = some (.cells #[.int .i64 (x : Nat)] t fr)) :
    ∃ g c w3, (Builtin.append_ #[25, 25] 25 #[res j, .slice (some ⟨q, 0, none⟩) 1 1]).run Try.prog W = .ok (.slice (some ⟨g, 0, none⟩) ((B j).length + 1) c) w3 ∧ w3.ownsRow (G + 1) 3 1 (.slice (some ⟨g, 0, none⟩) ((B j).length + 1) c) ((B j).length + 1) (ivals (B j ++ [x])) ∧ Kept (fun b => (res j).ownBlock = some b) W w3 ∧ ((res j).ownBlock = some g ∨ g = W.heap.size) := by
  obtain ⟨i0, hi0, hz0, hz1, hz2⟩ := info_parts info3b
  have hG := h.rr.lt
  have hz := hk.size
  obtain ⟨g, c', w3, h1, h2, h3, h4, h5⟩ := run_append_lies (P := Try.prog) W 25 25 (G + 1) 3 i0 (.int .i64 0) 1 8 Try.underlying25 hi0 hz0 hz1 hz2 rfl (by decide) _ (B j).length _ (hk.owns (h.form hj) (fun _ _ h => h)) ⟨q, 0, none⟩ 1 1 [.int .i64 (x : Nat)] rfl (World.news_of_block hc) (by simp [Value.oneCell']) (by omega) (by show (B j).length + 1 ≤ 9223372036854775807; omega) (by omega) (by omega) _ rfl
  refine ⟨g, c', w3, h1, ?_, (Kept.refl (fun b => (res j).ownBlock = some b) W).grown h3 (fun k hk => .inl hk), h4⟩
  have e : ivals (B j ++ [x]) = ivals (B j) ++ [.int .i64 (x : Nat)] := by simp [ivals]
  rw [e]
  exact h2

/-- A round. -/
theorem Bck.next (h : Bck w G n M i k B res) {j : Nat} (hj : j < n) (hk0 : k < (M i).length) (hjk : (M i).getD k 0 = j) {W w3 : World} {g c : Nat} (hk : Kept noS w W)
    (hown : w3.ownsRow (G + 1) 3 1 (.slice (some ⟨g, 0, none⟩) ((B j).length + 1) c) ((B j).length + 1) (ivals (B j ++ [i]))) (hk3 : Kept (fun b => (res j).ownBlock = some b) W w3) (hat : (res j).ownBlock = some g ∨ w.heap.size ≤ g) :
    w3.rowIs G 25 n res ∧ Bck (w3.setCell ⟨G, j, none⟩ (.slice (some ⟨g, 0, none⟩) ((B j).length + 1) c)) G n M i (k + 1) (upd B j (B j ++ [i])) (upd res j (.slice (some ⟨g, 0, none⟩) ((B j).length + 1) c)) ∧ Below G w (w3.setCell ⟨G, j, none⟩ (.slice (some ⟨g, 0, none⟩) ((B j).length + 1) c)) := by
  have hG := h.rr.lt
  have hz := hk.size
  have hz3 := hk3.size
  have ob : ∀ t q, t < n → (res t).ownBlock = some q → G + 1 ≤ q ∧ q < w.heap.size := fun t q ht hq => by
    obtain ⟨h1, c, hc⟩ := own_block (h.rs.own t ht) hq
    exact ⟨h1, heap_lt hc⟩
  have k3 : Kept (fun b => (res j).ownBlock = some b) w w3 := (hk.mono (fun x hx => hx.elim)).trans hk3 (fun x hx => .inl hx)
  have hr3 : w3.rowIs G 25 n res := k3.row h.rr (fun e => by have := ob j G hj e; omega)
  have hgG : g ≠ G := fun e => by
    rcases hat with h1 | h1
    · have := ob j g hj h1; omega
    · omega
  have k4 : Kept (fun b => b = G) w3 (w3.setCell ⟨G, j, none⟩ (.slice (some ⟨g, 0, none⟩) ((B j).length + 1) c)) := (Kept.refl (fun b => b = G) w3).setCell (.inl rfl) _
  have hr4 : (w3.setCell ⟨G, j, none⟩ (.slice (some ⟨g, 0, none⟩) ((B j).length + 1) c)).rowIs G 25 n (upd res j (.slice (some ⟨g, 0, none⟩) ((B j).length + 1) c)) := (hr3.set j _).congr (fun t ht => by
    by_cases e : t = j
    · simp [e, upd_same]
    · simp [e, upd_other _ _ e])
  have ho4 := k4.owns hown (fun q hq e => by simp only [Value.ownBlock, Option.some.injEq] at hq; omega)
  generalize w3.setCell ⟨G, j, none⟩ (.slice (some ⟨g, 0, none⟩) ((B j).length + 1) c) = w4 at *
  have kA : Kept (fun b => (res j).ownBlock = some b ∨ b = G) w w4 := (k3.mono (fun x hx => .inl hx)).trans k4 (fun x hx => .inl (.inr hx))
  refine ⟨hr3, ⟨hr4, ?_, fun t x => ?_, fun t => ?_⟩, kA.below (by omega) (fun x hx => ?_)⟩
  · have hl : (ivals (B j ++ [i])).length = (B j).length + 1 := by rw [ivals_length]; simp
    have hr := h.rs.next hj kA (v := .slice (some ⟨g, 0, none⟩) ((B j).length + 1) c) (ys := ivals (B j ++ [i])) (fun t q ht hti hq hs => ?_) (by rw [hl]; exact ho4) (fun q hq => ?_)
    · refine ⟨fun t ht => ?_, hr.dj⟩
      have h1 := hr.own t ht
      by_cases e : t = j
      · subst e
        rw [upd_same, upd_same] at h1
        rw [upd_same, upd_same]; exact h1
      · rw [upd_other _ _ e, upd_other _ _ e] at h1
        rw [upd_other _ _ e, upd_other _ _ e]; exact h1
    · rcases hs with hs | hs
      · exact h.rs.dj t j q ht hj hti hq hs
      · have := ob t q ht hq; omega
    · simp only [Value.ownBlock, Option.some.injEq] at hq
      rw [← hq]; exact hat
  · have htk : (M i).take (k + 1) = (M i).take k ++ [j] := by
      rw [List.take_add_one, List.getElem?_eq_getElem hk0]
      rw [List.getD_eq_getElem?_getD, List.getElem?_eq_getElem hk0] at hjk
      simp only [Option.getD_some] at hjk
      rw [hjk]; rfl
    rw [htk]
    by_cases e : t = j
    · subst e
      rw [upd_same, List.mem_append, h.mem t x]
      simp only [List.mem_singleton, List.mem_append, or_true, and_true]
      constructor
      · rintro ((⟨h1, h2⟩ | ⟨h1, h2⟩) | h1)
        · exact .inl ⟨h1, h2⟩
        · exact .inr h1
        · exact .inr h1
      · rintro (⟨h1, h2⟩ | h1)
        · exact .inl (.inl ⟨h1, h2⟩)
        · exact .inr h1
    · rw [upd_other _ _ e, h.mem t x]
      simp only [List.mem_append, List.mem_singleton, e, or_false]
  · by_cases e : t = j
    · subst e
      rw [upd_same]
      have := h.len t
      simp only [List.length_append, List.length_cons, List.length_nil]
      omega
    · rw [upd_other _ _ e]
      have := h.len t
      omega
  · rcases hx with hx | hx
    · have := ob j x hj hx; omega
    · omega

theorem Bck.kept (h : Bck w G n M i k B res) (hk : Kept noS w w') : Bck w' G n M i k B res := ⟨hk.row h.rr (fun h => h), h.rs.kept hk (fun _ _ _ _ h => h), h.mem, h.len⟩

theorem Bck.mat (h : Bck w G n M i k B res) : Mat w (some ⟨G, 0, none⟩) n B :=
  ⟨fun j hj => by
    have h1 := h.form hj
    obtain ⟨b, c, hb⟩ := own_form h1
    refine ⟨⟨G, 0, none⟩, b, c, rfl, ?_, fun k hk => ?_⟩
    · rw [addr_add, Nat.zero_add, h.rr.cell hj, hb]
    · rw [hb] at h1
      exact own_cell h1 hk (by
        unfold ivals
        rw [List.getElem?_map, List.getElem?_eq_getElem hk]
        simp [List.getD_eq_getElem?_getD, List.getElem?_eq_getElem hk])⟩
end Go.Proofs.Qxb6613158a
