/-
  THE COPIES THAT ZZnewImportReach HANDS BACK: lists of numbers, as they lie.
-/
import Derived.Test.Qxb6613158aLay
namespace Go.Proofs.Qxb6613158a
open Go.RowKit Tj
set_option linter.unusedSimpArgs false
set_option linter.unusedVariables false

theorem info21c : (Try.prog.info? 21).map (fun i => (i.zero, i.size, i.bytes)) = some (some (.int .i32 0), 1, 4) := by kernel_rfl

def flatI (f l : Nat → Int) : Nat → List Int
  | 0 => []
  | k + 1 => flatI f l k ++ [f k, l k]

theorem flatI_length (f l : Nat → Int) : ∀ k, (flatI f l k).length = k * 2
  | 0 => rfl
  | k + 1 => by
    show (flatI f l k ++ [f k, l k]).length = _
    rw [List.length_append, flatI_length f l k]
    simp only [List.length_cons, List.length_nil]
    omega

def vals (z : List Int) : List Value := z.map (fun x => .int .i32 x)
theorem vals_length (z : List Int) : (vals z).length = z.length := by simp [vals]

/-- Two numbers more. -/
theorem app_two {W : World} {B K : Nat} {v : Value} {z : List Int} {q : Nat} {x y : Int} {t : TypeId} {fr : Nat × Nat} (ho : W.ownsRow B 21 1 v K (vals z)) (hc : W.heap[q]? = some (.cells #[.int .i32 x, .int .i32 y] t fr)) (hB : B ≤ W.heap.size) (hK : K ≤ 1048576) :
    ∃ g c w', (Builtin.append_ #[26, 26] 26 #[v, .slice (some ⟨q, 0, none⟩) 2 2]).run Try.prog W = .ok (.slice (some ⟨g, 0, none⟩) (K + 2) c) w' ∧ w'.ownsRow B 21 1 (.slice (some ⟨g, 0, none⟩) (K + 2) c) (K + 2) (vals (z ++ [x, y])) ∧ Kept (fun b => v.ownBlock = some b) W w' ∧ (v.ownBlock = some g ∨ g = W.heap.size) := by
  obtain ⟨i0, hi0, hz0, hz1, hz2⟩ := info_parts info21c
  obtain ⟨g, c', w3, h1, h2, h3, h4, h5⟩ := run_append_lies (P := Try.prog) W 26 26 B 21 i0 (.int .i32 0) 1 4 Try.underlying26 hi0 hz0 hz1 hz2 rfl (by decide) _ K _ ho ⟨q, 0, none⟩ 2 2 [.int .i32 x, .int .i32 y] rfl (World.news_of_block hc) (by simp [Value.oneCell']) (by omega) (by show K + 2 ≤ 9223372036854775807; omega) (by omega) hB _ rfl
  refine ⟨g, c', w3, h1, ?_, (Kept.refl (fun b => v.ownBlock = some b) W).grown h3 (fun k hk => .inl hk), h4⟩
  have e : vals (z ++ [x, y]) = vals z ++ [.int .i32 x, .int .i32 y] := by simp [vals]
  rw [e]
  exact h2

theorem flat_of_own {w : World} {B K : Nat} {a : Option Addr} {c : Nat} {z : List Int} (h : w.ownsRow B 21 1 (.slice a K c) K (vals z)) (hz : z.length = K) : FlatAt w a z :=
  ⟨fun k hk => own_cell h (by omega) (by
    unfold vals
    rw [List.getElem?_map, List.getElem?_eq_getElem hk]
    simp [List.getD_eq_getElem?_getD, List.getElem?_eq_getElem hk])⟩

/-- How many have been copied. -/
def cc (mm : Nat → Nat) (i k j : Nat) : Nat := if j < i then mm j else if j = i then k else 0

structure Cop (w : World) (G n : Nat) (ff ll : Nat → Nat → Int) (mm : Nat → Nat) (i k : Nat) (res : Nat → Value) : Prop where
  rr : w.rowIs G 26 n res
  rs : Rws w (G + 1) 21 n res (fun j => vals (flatI (ff j) (ll j) (cc mm i k j)))

variable {w w' : World} {G n : Nat} {ff ll : Nat → Nat → Int} {mm : Nat → Nat} {i k : Nat} {res : Nat → Value}

theorem Cop.zero (w : World) (n : Nat) (ff ll : Nat → Nat → Int) (mm : Nat → Nat) : Cop (w.alloc (.cells (madeCells #[.slice none 0 0] n) 26)) w.heap.size n ff ll mm 0 0 (fun _ => .slice none 0 0) := by
  refine ⟨World.rowIs_made w _ n 26, ⟨fun j hj => ?_, fun j k g _ _ _ hg => by cases hg⟩⟩
  have e : cc mm 0 0 j = 0 := by simp [cc]
  rw [e]
  exact ⟨rfl, .inl ⟨rfl, rfl⟩⟩

theorem Cop.kept (h : Cop w G n ff ll mm i k res) (hk : Kept noS w w') : Cop w' G n ff ll mm i k res := ⟨hk.row h.rr (fun h => h), h.rs.kept hk (fun _ _ _ _ h => h)⟩

theorem Cop.own (h : Cop w G n ff ll mm i k res) (hi : i < n) : w.ownsRow (G + 1) 21 1 (res i) (k * 2) (vals (flatI (ff i) (ll i) k)) := by
  have h1 := h.rs.own i hi
  have e : cc mm i k i = k := by simp [cc]
  rw [vals_length, flatI_length, e] at h1
  exact h1

/-- A round. -/
theorem Cop.next (h : Cop w G n ff ll mm i k res) (hi : i < n) {W w3 : World} {g c : Nat} (hk : Kept noS w W) (hown : w3.ownsRow (G + 1) 21 1 (.slice (some ⟨g, 0, none⟩) (k * 2 + 2) c) (k * 2 + 2) (vals (flatI (ff i) (ll i) k ++ [ff i k, ll i k]))) (hk3 : Kept (fun b => (res i).ownBlock = some b) W w3) (hat : (res i).ownBlock = some g ∨ w.heap.size ≤ g) :
    w3.rowIs G 26 n res ∧ Cop (w3.setCell ⟨G, i, none⟩ (.slice (some ⟨g, 0, none⟩) (k * 2 + 2) c)) G n ff ll mm i (k + 1) (upd res i (.slice (some ⟨g, 0, none⟩) (k * 2 + 2) c)) ∧ Below G w (w3.setCell ⟨G, i, none⟩ (.slice (some ⟨g, 0, none⟩) (k * 2 + 2) c)) := by
  have hG := h.rr.lt
  have hz := hk.size
  have hz3 := hk3.size
  have ob : ∀ j q, j < n → (res j).ownBlock = some q → G + 1 ≤ q ∧ q < w.heap.size := fun j q hj hq => by
    obtain ⟨h1, c, hc⟩ := own_block (h.rs.own j hj) hq
    exact ⟨h1, heap_lt hc⟩
  have k3 : Kept (fun b => (res i).ownBlock = some b) w w3 := (hk.mono (fun x hx => hx.elim)).trans hk3 (fun x hx => .inl hx)
  have hr3 : w3.rowIs G 26 n res := k3.row h.rr (fun e => by have := ob i G hi e; omega)
  have hgG : g ≠ G := fun e => by
    rcases hat with h1 | h1
    · have := ob i g hi h1; omega
    · omega
  have k4 : Kept (fun b => b = G) w3 (w3.setCell ⟨G, i, none⟩ (.slice (some ⟨g, 0, none⟩) (k * 2 + 2) c)) := (Kept.refl (fun b => b = G) w3).setCell (.inl rfl) _
  have hr4 : (w3.setCell ⟨G, i, none⟩ (.slice (some ⟨g, 0, none⟩) (k * 2 + 2) c)).rowIs G 26 n (upd res i (.slice (some ⟨g, 0, none⟩) (k * 2 + 2) c)) := (hr3.set i _).congr (fun j hj => by
    by_cases e : j = i
    · simp [e, upd_same]
    · simp [e, upd_other _ _ e])
  have ho4 := k4.owns hown (fun q hq e => by simp only [Value.ownBlock, Option.some.injEq] at hq; omega)
  generalize w3.setCell ⟨G, i, none⟩ (.slice (some ⟨g, 0, none⟩) (k * 2 + 2) c) = w4 at *
  have kA : Kept (fun b => (res i).ownBlock = some b ∨ b = G) w w4 := (k3.mono (fun x hx => .inl hx)).trans k4 (fun x hx => .inl (.inr hx))
  refine ⟨hr3, ⟨hr4, ?_⟩, kA.below (by omega) (fun x hx => ?_)⟩
  · have hl : (vals (flatI (ff i) (ll i) (k + 1))).length = k * 2 + 2 := by rw [vals_length, flatI_length]; omega
    have hr := h.rs.next hi kA (v := .slice (some ⟨g, 0, none⟩) (k * 2 + 2) c) (ys := vals (flatI (ff i) (ll i) (k + 1))) (fun j q hj hji hq hs => ?_) (by rw [hl]; exact ho4) (fun q hq => ?_)
    · refine ⟨fun j hj => ?_, hr.dj⟩
      have h1 := hr.own j hj
      by_cases e : j = i
      · subst e
        have e2 : cc mm j (k + 1) j = k + 1 := by simp [cc]
        rw [upd_same, upd_same] at h1
        rw [upd_same, e2]; exact h1
      · rw [upd_other _ _ e, upd_other _ _ e] at h1
        rw [upd_other _ _ e]
        have e2 : cc mm i (k + 1) j = cc mm i k j := by simp [cc, e]
        rw [e2]; exact h1
    · rcases hs with hs | hs
      · exact h.rs.dj j i q hj hi hji hq hs
      · have := ob j q hj hq; omega
    · simp only [Value.ownBlock, Option.some.injEq] at hq
      rw [← hq]; exact hat
  · rcases hx with hx | hx
    · have := ob i x hi hx; omega
    · omega

/-- The next list. -/
theorem Cop.step (h : Cop w G n ff ll mm i (mm i) res) : Cop w G n ff ll mm (i + 1) 0 res := by
  refine ⟨h.rr, ⟨fun j hj => ?_, h.rs.dj⟩⟩
  have h1 := h.rs.own j hj
  have e : cc mm (i + 1) 0 j = cc mm i (mm i) j := by
    unfold cc
    by_cases e1 : j < i
    · rw [if_pos e1, if_pos (by omega)]
    · by_cases e2 : j = i
      · subst e2; rw [if_neg e1, if_pos rfl, if_pos (by omega)]
      · rw [if_neg e1, if_neg e2, if_neg (by omega)]; simp
  rw [e]; exact h1

theorem Cop.done (h : Cop w G n ff ll mm n 0 res) {j : Nat} (hj : j < n) : ∃ a c, res j = .slice a (flatI (ff j) (ll j) (mm j)).length c ∧ FlatAt w a (flatI (ff j) (ll j) (mm j)) := by
  have h1 := h.rs.own j hj
  have e : cc mm n 0 j = mm j := by simp [cc, hj]
  rw [vals_length, e] at h1
  obtain ⟨a, c, ha⟩ := own_form h1
  rw [ha] at h1
  exact ⟨a, c, ha, flat_of_own h1 rfl⟩
end Go.Proofs.Qxb6613158a
