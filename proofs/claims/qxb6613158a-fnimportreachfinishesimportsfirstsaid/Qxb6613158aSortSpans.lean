/-
  slices.SortFunc AT SPANS (33), off the shelf: WHAT spansOf ASKS OF IT.
-/
import Derived.Test.Qxb6613158aSpansOf
import Derived.Test.Qxb6613158aSpanLay
namespace Go.Proofs.Qxb6613158a
open Go.Shelf Go.RowKit Go.Lib Go.Sort
set_option linter.unusedSimpArgs false
set_option linter.unusedVariables false

/-- A span's two cells. -/
def encS (x : Int × Int) : List Value := [.int .i32 x.1, .int .i32 x.2]

theorem ltFirst (x y : Int × Int) : ltOf (fun x y : Int × Int => Lib.compareInt x.1 y.1) x y = decide (x.1 < y.1) := by
  unfold ltOf Lib.compareInt
  by_cases h1 : x.1 < y.1
  · simp [h1]
  · by_cases h2 : y.1 < x.1 <;> simp [h1, h2]

theorem swoFirst : SWO (ltOf fun x y : Int × Int => Lib.compareInt x.1 y.1) :=
  ⟨fun x => by rw [ltFirst]; simp, fun x y z h1 h2 => by rw [ltFirst] at *; simp at *; omega, fun x y z h1 h2 => by rw [ltFirst] at *; simp at *; omega⟩

theorem cmpLays34 (blk off size : Nat) (w : World) : CmpLays Try.prog 34 #[] encS 2 (fun x y => Lib.compareInt x.1 y.1) blk off size w :=
  fun _ _ _ _ x y => (closure34 x.1 x.2 y.1 y.2 _).mono fun _ _ ⟨he, hw⟩ => by
    subst hw
    exact ⟨he, 0, _, by rw [alloc_eq_grow, alloc_eq_grow, grow_grow]; rfl⟩

theorem flat_at (d : Array (Int × Int)) (k : Nat) (hk : k < d.size) : (flatK encS 2 d)[k * 2]! = .int .i32 (d[k]!).1 ∧ (flatK encS 2 d)[k * 2 + 1]! = .int .i32 (d[k]!).2 := by
  constructor
  · rw [get_flatK _ _ _ _ (by omega), show k * 2 / 2 = k by omega, show k * 2 % 2 = 0 by omega]; rfl
  · rw [get_flatK _ _ _ _ (by omega), show (k * 2 + 1) / 2 = k by omega, show (k * 2 + 1) % 2 = 1 by omega]; rfl

theorem rowIs_mapBlock {w : World} {g N : Nat} {t : TypeId} {h : Nat → Value} (hr : w.rowIs g t N h) (F : Array Value → Array Value) (hF : ∀ c, (F c).size = c.size) : ∃ h', (mapBlock w g F).rowIs g t N h' := by
  obtain ⟨c, hc, hs, hi⟩ := hr
  refine ⟨fun i => ((F c)[i]?).getD default, F c, ?_, by rw [hF, hs], fun i hi2 => ?_⟩
  · show (w.heap.modify g (onCells F))[g]? = _
    rw [Array.getElem?_modify, if_pos rfl, hc]
    rfl
  · have : i < (F c).size := by rw [hF, hs]; exact hi2
    show (F c)[i]? = some (((F c)[i]?).getD default)
    rw [Array.getElem?_eq_getElem this]; rfl

theorem kept_mapBlock (w : World) (g : Nat) (F : Array Value → Array Value) : Kept (fun b => b = g) w (mapBlock w g F) :=
  ⟨rfl, rfl, rfl, by show _ ≤ (w.heap.modify g _).size; simp, fun k hk hs => by
    show (w.heap.modify g _)[k]? = _
    rw [Array.getElem?_modify, if_neg (fun e => hs e.symm)]⟩

theorem kept_grow (w : World) (os : Array Obj) : Kept noS w (Go.Sort.grow w os) := ⟨rfl, rfl, rfl, by simp, fun k hk _ => heap_grow_old w os hk⟩

theorem sortOk : SortOk := by
  intro g cap n f l w hn hn2 hR
  obtain ⟨h0, hr, hnc, hh⟩ := hR
  obtain ⟨d, hd⟩ : ∃ d : Array (Int × Int), d = (Array.range n).map (fun k => (f k, l k)) := ⟨_, rfl⟩
  have hsz : d.size = n := by rw [hd]; simp
  have hget : ∀ k, k < n → d[k]! = (f k, l k) := fun k hk => by rw [hd]; simp [hk]
  have hH : HoldsK encS 2 w g 0 d := by
    intro j hj
    rw [size_flatK, hsz] at hj
    have h2 : j / 2 < n := by omega
    rw [Nat.zero_add]
    refine ⟨?_, hr.frozen j⟩
    rw [hr.cell (by omega), get_flatK _ _ _ _ (by rw [hsz]; exact hj), hget _ h2]
    rcases (show j = j / 2 * 2 ∨ j = j / 2 * 2 + 1 by omega) with e | e
    · rw [show j % 2 = 0 by omega]
      conv => lhs; rw [e, (hh _ h2).1]
      rfl
    · rw [show j % 2 = 1 by omega]
      conv => lhs; rw [e, (hh _ h2).2]
      rfl
  have eg : ∀ args w, (callFunc 34 args).run Try.prog w = .ok (.enter 34 args) w := enters_of Try.func34 (by kernel_rfl) rfl
  have hcon := AnyQ.slices_SortFunc Try.sortSpan 2 Try.isAgg85 Try.sizeOf85 encS (fun _ => rfl) (fun x v hv => by simp [encS] at hv; rcases hv with rfl | rfl <;> rfl) (fun x y => Lib.compareInt x.1 y.1) swoFirst 34 #[] g 0 cap d w eg (cmpLays34 g 0 d.size w) hH hr.lt (by omega)
  change Calls Try.prog 33 _ _ _ at hcon
  rw [hsz] at hcon
  refine hcon.mono ?_
  rintro e w' ⟨rfl, d', m, os, hp, _, rfl⟩
  have hps : d'.size = n := by rw [hp.1, hsz]
  have hall := permIn_all d d' 0 n (fun x => ∃ j, j < n ∧ x = d[j]!) (by omega) hp (fun i _ hi => ⟨i, hi, rfl⟩)
  have hH' : HoldsK encS 2 (sortWorldK encS 2 w g 0 m d' os) g 0 d' := holdsK_sortWorldK encS 2 w g 0 m d d' os hr.lt hH (by rw [hps, hsz])
  refine ⟨rfl, ⟨fun k => (d'[k]!).1, fun k => (d'[k]!).2, ?_, fun k hk => ?_⟩, ?_⟩
  · obtain ⟨h', hr'⟩ := rowIs_mapBlock (w := Sort.ahead w m) hr (putCells id 0 (flatK encS 2 d')) (fun c => by unfold putCells; simp)
    have hr2 : (sortWorldK encS 2 w g 0 m d' os).rowIs g 85 (cap * 2) h' := (kept_grow _ os).row hr' (fun h => h)
    refine ⟨h', hr2, hnc, fun k hk => ?_⟩
    have a1 := (hH' (k * 2) (by rw [size_flatK, hps]; omega)).1
    have a2 := (hH' (k * 2 + 1) (by rw [size_flatK, hps]; omega)).1
    rw [Nat.zero_add, hr2.cell (by omega)] at a1 a2
    have b := flat_at d' k (by omega)
    exact ⟨by rw [Option.some.inj a1]; exact b.1, by rw [Option.some.inj a2]; exact b.2⟩
  · obtain ⟨j, hj, e⟩ := hall k (Nat.zero_le _) hk
    rw [hget j hj] at e
    exact ⟨j, hj, congrArg Prod.fst e, congrArg Prod.snd e⟩
  · exact (show Kept (fun b => b = g) w (mapBlock (Sort.ahead w m) g _) from ⟨rfl, rfl, rfl, (kept_mapBlock (Sort.ahead w m) g _).size, (kept_mapBlock (Sort.ahead w m) g _).block⟩).trans (kept_grow _ os) (fun x hx => hx.elim)
end Go.Proofs.Qxb6613158a
