/-
  THE PLAIN MATHEMATICS of 'FnImportReachFinishesImportsFirst': Tarjan's walk as steps on a state, and what each step keeps. No Go in sight.
-/
import Derived.KernelRfl
namespace Go.Proofs.Qxb6613158a.Tj
set_option linter.unusedVariables false
set_option linter.unusedSimpArgs false

/-! ### Reaching -/
def ReachN (adj : Nat → List Nat) : Nat → Nat → Nat → Prop
  | 0, u, v => u = v
  | k + 1, u, v => ∃ x, x ∈ adj u ∧ ReachN adj k x v

def Reach (adj : Nat → List Nat) (u v : Nat) : Prop := ∃ k, ReachN adj k u v

variable {adj : Nat → List Nat}

theorem reachN_trans : ∀ (a : Nat) {b u v w : Nat}, ReachN adj a u v → ReachN adj b v w → ReachN adj (a + b) u w
  | 0, b, u, v, w, h, k => by
    have e : u = v := h
    subst e
    rw [Nat.zero_add]
    exact k
  | a + 1, b, u, v, w, ⟨x, hx, h⟩, k => by
    rw [show a + 1 + b = (a + b) + 1 by omega]
    exact ⟨x, hx, reachN_trans a h k⟩

theorem Reach.refl (u : Nat) : Reach adj u u := ⟨0, rfl⟩
theorem Reach.edge {u v : Nat} (h : v ∈ adj u) : Reach adj u v := ⟨1, v, h, rfl⟩
theorem Reach.trans {u v w : Nat} (h : Reach adj u v) (k : Reach adj v w) : Reach adj u w := by
  obtain ⟨a, h⟩ := h
  obtain ⟨b, k⟩ := k
  exact ⟨a + b, reachN_trans a h k⟩

/-! ### The state -/
def upd {α : Type} (f : Nat → α) (i : Nat) (x : α) : Nat → α := fun j => if j = i then x else f j
theorem upd_same {α : Type} (f : Nat → α) (i : Nat) (x : α) : upd f i x i = x := if_pos rfl
theorem upd_other {α : Type} (f : Nat → α) {i j : Nat} (x : α) (h : j ≠ i) : upd f i x j = f j := if_neg h

structure St where
  f : Nat → Nat
  low : Nat → Nat
  op : Nat → Nat
  m : Nat
  pa : Nat → Nat
  nx : Nat → List Nat
  d : Nat
  c : Nat
  fin : Nat
  num : Nat → Nat
  lo : Nat → Nat
  hi : Nat → Nat

def St.Open (s : St) (v : Nat) : Prop := ∃ i, i < s.m ∧ s.op i = v
def St.Done (s : St) (n v : Nat) : Prop := v < n ∧ s.f v ≠ 0 ∧ ¬ s.Open v
def St.Seg (s : St) (i v : Nat) : Prop := i < s.d ∧ s.Open v ∧ s.f (s.pa i) ≤ s.f v ∧ (i + 1 < s.d → s.f v < s.f (s.pa (i + 1)))

structure Inv (n : Nat) (adj : Nat → List Nat) (s : St) : Prop where
  opv : ∀ i, i < s.m → s.op i < n ∧ s.f (s.op i) ≠ 0
  opm : ∀ i j, i < j → j < s.m → s.f (s.op i) < s.f (s.op j)
  fc : ∀ v, v < n → s.f v ≤ s.c
  pin : ∀ i, i < s.d → s.Open (s.pa i)
  pm : ∀ i j, i < j → j < s.d → s.f (s.pa i) < s.f (s.pa j)
  base : ∀ v, s.Open v → 0 < s.d ∧ s.f (s.pa 0) ≤ s.f v
  ped : ∀ i, i + 1 < s.d → s.pa (i + 1) ∈ adj (s.pa i)
  nxs : ∀ i, i < s.d → ∀ u, u ∈ s.nx i → u ∈ adj (s.pa i)
  seg : ∀ i v, s.Seg i v → Reach adj v (s.pa i) ∧ Reach adj (s.pa i) v
  lwl : ∀ i, i < s.d → s.low (s.pa i) ≤ s.f (s.pa i)
  lwx : ∀ i, i < s.d → ∃ x, s.Open x ∧ s.f x = s.low (s.pa i) ∧ Reach adj (s.pa i) x
  edg : ∀ i v, s.Seg i v → ∀ u, u ∈ adj v → (v = s.pa i ∧ u ∈ s.nx i) ∨ (s.f u ≠ 0 ∧ (s.Open u → s.low (s.pa i) ≤ s.f u))
  d1 : ∀ v, s.Done n v → s.lo v ≤ s.num v ∧ s.num v < s.hi v ∧ s.hi v ≤ s.fin
  d2 : ∀ v, s.Done n v → ∀ u, u ∈ adj v → s.Done n u ∧ s.num u < s.hi v
  d3 : ∀ u v, s.Done n u → s.Done n v → s.lo v ≤ s.num u → s.num u < s.hi v → s.hi u = s.hi v ∧ s.lo u = s.lo v
  d4 : ∀ u v, s.Done n u → s.Done n v → s.hi u = s.hi v → Reach adj u v
  d5 : ∀ u v, s.Done n u → s.Done n v → s.num u = s.num v → u = v
  d6 : ∀ k, k < s.fin → ∃ v, s.Done n v ∧ s.num v = k

variable {n : Nat} {s : St}

theorem Inv.open_lt (h : Inv n adj s) {v : Nat} (hv : s.Open v) : v < n ∧ s.f v ≠ 0 := by
  obtain ⟨i, hi, rfl⟩ := hv
  exact h.opv i hi

theorem Inv.open_inj (h : Inv n adj s) {u v : Nat} (hu : s.Open u) (hv : s.Open v) (e : s.f u = s.f v) : u = v := by
  obtain ⟨i, hi, rfl⟩ := hu
  obtain ⟨j, hj, rfl⟩ := hv
  rcases Nat.lt_trichotomy i j with hlt | heq | hgt
  · have := h.opm i j hlt hj; omega
  · rw [heq]
  · have := h.opm j i hgt hi; omega

theorem Inv.pa_ne (h : Inv n adj s) {i j : Nat} (hi : i < s.d) (hj : j < s.d) (hne : i ≠ j) : s.pa i ≠ s.pa j := fun e => by
  rcases Nat.lt_or_gt_of_ne hne with hlt | hgt
  · have := h.pm i j hlt hj; rw [e] at this; omega
  · have := h.pm j i hgt hi; rw [e] at this; omega

/-- Every open file lies in a piece of the path. -/
theorem Inv.segOf (h : Inv n adj s) {v : Nat} (hv : s.Open v) : ∃ i, s.Seg i v := by
  obtain ⟨hd, hb⟩ := h.base v hv
  have key : ∀ k, k < s.d → ∃ i, i ≤ k ∧ s.f (s.pa i) ≤ s.f v ∧ (i + 1 ≤ k → s.f v < s.f (s.pa (i + 1))) := by
    intro k
    induction k with
    | zero => intro _; exact ⟨0, Nat.le_refl _, hb, fun h => by omega⟩
    | succ k ih =>
      intro hk
      by_cases hc : s.f (s.pa (k + 1)) ≤ s.f v
      · exact ⟨k + 1, Nat.le_refl _, hc, fun h => by omega⟩
      · obtain ⟨i, hi, h1, h2⟩ := ih (by omega)
        refine ⟨i, by omega, h1, fun h3 => ?_⟩
        by_cases e : i = k
        · subst e; omega
        · exact h2 (by omega)
  obtain ⟨i, hi, h1, h2⟩ := key (s.d - 1) (by omega)
  exact ⟨i, by omega, hv, h1, fun h3 => h2 (by omega)⟩

/-- The path is a path. -/
theorem Inv.path (h : Inv n adj s) : ∀ (e i : Nat), i + e < s.d → Reach adj (s.pa i) (s.pa (i + e))
  | 0, i, _ => Reach.refl _
  | e + 1, i, hi => (h.path e i (by omega)).trans (Reach.edge (h.ped (i + e) hi))

theorem Inv.path_le (h : Inv n adj s) {i j : Nat} (hij : i ≤ j) (hj : j < s.d) : Reach adj (s.pa i) (s.pa j) := by
  have := h.path (j - i) i (by omega)
  rwa [show i + (j - i) = j by omega] at this

theorem Inv.none_open (h : Inv n adj s) (hd : s.d = 0) (v : Nat) : ¬ s.Open v := fun hv => by
  have := (h.base v hv).1
  omega

/-! ### A file is found -/
def St.find (s : St) (t : Nat) (nx0 : Nat → List Nat) (L : List Nat) : St :=
  { s with f := upd s.f t (s.c + 1), low := upd s.low t (s.c + 1), op := upd s.op s.m t, m := s.m + 1, pa := upd s.pa s.d t, nx := upd nx0 s.d L, d := s.d + 1, c := s.c + 1 }

theorem Inv.find (h : Inv n adj s) {t : Nat} {nx0 : Nat → List Nat} {L : List Nat} (ht : t < n) (hf : s.f t = 0) (hedge : 0 < s.d → t ∈ adj (s.pa (s.d - 1)))
    (h1 : ∀ i, i < s.d → ∀ u, u ∈ s.nx i → u = t ∨ u ∈ nx0 i) (h2 : ∀ i, i < s.d → ∀ u, u ∈ nx0 i → u ∈ s.nx i) (hL : ∀ u, u ∈ L ↔ u ∈ adj t) : Inv n adj (s.find t nx0 L) := by
  have hto : ¬ s.Open t := fun ho => (h.open_lt ho).2 hf
  have ef : ∀ v, v ≠ t → (s.find t nx0 L).f v = s.f v := fun v hv => upd_other _ _ hv
  have eft : (s.find t nx0 L).f t = s.c + 1 := upd_same _ _ _
  have el : ∀ v, v ≠ t → (s.find t nx0 L).low v = s.low v := fun v hv => upd_other _ _ hv
  have elt : (s.find t nx0 L).low t = s.c + 1 := upd_same _ _ _
  have ep : ∀ i, i < s.d → (s.find t nx0 L).pa i = s.pa i := fun i hi => upd_other _ _ (by omega)
  have ept : (s.find t nx0 L).pa s.d = t := upd_same _ _ _
  have en : ∀ i, i < s.d → (s.find t nx0 L).nx i = nx0 i := fun i hi => upd_other _ _ (by omega)
  have ent : (s.find t nx0 L).nx s.d = L := upd_same _ _ _
  have eo : ∀ v, (s.find t nx0 L).Open v ↔ s.Open v ∨ v = t := by
    intro v
    constructor
    · rintro ⟨i, hi, e⟩
      have hi' : i < s.m + 1 := hi
      by_cases him : i = s.m
      · subst him
        right
        rw [← e]
        exact upd_same _ _ _
      · left
        exact ⟨i, by omega, by rw [← e]; exact (upd_other _ _ him).symm⟩
    · rintro (⟨i, hi, e⟩ | e)
      · exact ⟨i, show i < s.m + 1 by omega, by rw [← e]; exact upd_other _ _ (by omega)⟩
      · exact ⟨s.m, show s.m < s.m + 1 by omega, by rw [e]; exact upd_same _ _ _⟩
  have one : ∀ v, s.Open v → v ≠ t := fun v hv e => hto (e ▸ hv)
  have pne : ∀ i, i < s.d → s.pa i ≠ t := fun i hi => one _ (h.pin i hi)
  have ed : (s.find t nx0 L).d = s.d + 1 := rfl
  have fle : ∀ v, s.Open v → s.f v ≤ s.c := fun v hv => h.fc v (h.open_lt hv).1
  have eD : ∀ v, (s.find t nx0 L).Done n v ↔ s.Done n v := by
    intro v
    by_cases e : v = t
    · subst e
      constructor
      · rintro ⟨_, _, h3⟩; exact absurd ((eo v).2 (.inr rfl)) h3
      · rintro ⟨_, h3, _⟩; exact absurd hf h3
    · constructor
      · rintro ⟨a, b, c⟩
        exact ⟨a, by rw [ef v e] at b; exact b, fun ho => c ((eo v).2 (.inl ho))⟩
      · rintro ⟨a, b, c⟩
        exact ⟨a, by rw [ef v e]; exact b, fun ho => by
          rcases (eo v).1 ho with h3 | h3
          · exact c h3
          · exact e h3⟩
  have segs : ∀ i v, (s.find t nx0 L).Seg i v → (i = s.d ∧ v = t) ∨ (v ≠ t ∧ s.Seg i v) := by
    rintro i v ⟨hi, ho, hle, hlt⟩
    rw [ed] at hi hlt
    by_cases hv : v = t
    · subst hv
      by_cases hid : i = s.d
      · exact .inl ⟨hid, rfl⟩
      · exfalso
        have := hlt (by omega)
        rw [eft] at this
        by_cases h3 : i + 1 = s.d
        · rw [h3, ept, eft] at this; omega
        · rw [ep (i + 1) (by omega), ef _ (pne _ (by omega))] at this
          have := fle _ (h.pin (i + 1) (by omega))
          omega
    · have ho' : s.Open v := by
        rcases (eo v).1 ho with h3 | h3
        · exact h3
        · exact absurd h3 hv
      rw [ef v hv] at hle hlt
      by_cases hid : i = s.d
      · exfalso
        rw [hid, ept, eft] at hle
        have := fle v ho'
        omega
      · have hid' : i < s.d := by omega
        rw [ep i hid', ef _ (pne i hid')] at hle
        refine .inr ⟨hv, hid', ho', hle, fun h3 => ?_⟩
        have := hlt (by omega)
        rwa [ep (i + 1) h3, ef _ (pne _ h3)] at this
  refine ⟨?_, ?_, ?_, ?_, ?_, ?_, ?_, ?_, ?_, ?_, ?_, ?_, ?_, ?_, ?_, ?_, ?_, ?_⟩
  · intro i hi
    have ho : (s.find t nx0 L).Open ((s.find t nx0 L).op i) := ⟨i, hi, rfl⟩
    rcases (eo _).1 ho with h3 | h3
    · have := h.open_lt h3
      exact ⟨this.1, by rw [ef _ (one _ h3)]; exact this.2⟩
    · rw [h3, eft]; exact ⟨ht, by omega⟩
  · intro i j hij hj
    have hj' : j < s.m + 1 := hj
    have ei : (s.find t nx0 L).op i = s.op i := upd_other _ _ (by omega)
    have hoi : s.Open (s.op i) := ⟨i, by omega, rfl⟩
    rw [ei, ef _ (one _ hoi)]
    by_cases hjm : j = s.m
    · rw [hjm, show (s.find t nx0 L).op s.m = t from upd_same _ _ _, eft]
      have := fle _ hoi
      omega
    · have ej : (s.find t nx0 L).op j = s.op j := upd_other _ _ hjm
      rw [ej, ef _ (one _ ⟨j, by omega, rfl⟩)]
      exact h.opm i j hij (by omega)
  · intro v hv
    show (s.find t nx0 L).f v ≤ s.c + 1
    by_cases e : v = t
    · rw [e, eft]; omega
    · rw [ef v e]; have := h.fc v hv; omega
  · intro i hi
    rw [ed] at hi
    by_cases e : i = s.d
    · rw [e, ept]; exact (eo t).2 (.inr rfl)
    · rw [ep i (by omega)]; exact (eo _).2 (.inl (h.pin i (by omega)))
  · intro i j hij hj
    rw [ed] at hj
    rw [ep i (by omega), ef _ (pne i (by omega))]
    by_cases e : j = s.d
    · rw [e, ept, eft]; have := fle _ (h.pin i (by omega)); omega
    · rw [ep j (by omega), ef _ (pne j (by omega))]; exact h.pm i j hij (by omega)
  · intro v hv
    refine ⟨by rw [ed]; omega, ?_⟩
    rcases (eo v).1 hv with h3 | h3
    · have hb := h.base v h3
      rw [ep 0 hb.1, ef _ (pne 0 hb.1), ef _ (one _ h3)]
      exact hb.2
    · subst h3
      by_cases e : s.d = 0
      · have := ept; rw [e] at this; rw [this]; exact Nat.le_refl _
      · rw [ep 0 (by omega), ef _ (pne 0 (by omega)), eft]
        have := fle _ (h.pin 0 (by omega)); omega
  · intro i hi
    rw [ed] at hi
    by_cases e : i + 1 = s.d
    · rw [e, ept, ep i (by omega)]
      have := hedge (by omega)
      rwa [show s.d - 1 = i by omega] at this
    · rw [ep (i + 1) (by omega), ep i (by omega)]; exact h.ped i (by omega)
  · intro i hi u hu
    rw [ed] at hi
    by_cases e : i = s.d
    · subst e; rw [ent] at hu; rw [ept]; exact (hL u).1 hu
    · rw [en i (by omega)] at hu; rw [ep i (by omega)]; exact h.nxs i (by omega) u (h2 i (by omega) u hu)
  · intro i v hs
    rcases segs i v hs with ⟨rfl, rfl⟩ | ⟨hv, hs'⟩
    · rw [ept]; exact ⟨Reach.refl _, Reach.refl _⟩
    · rw [ep i hs'.1]; exact h.seg i v hs'
  · intro i hi
    rw [ed] at hi
    by_cases e : i = s.d
    · rw [e, ept, elt, eft]; exact Nat.le_refl _
    · rw [ep i (by omega), el _ (pne i (by omega)), ef _ (pne i (by omega))]; exact h.lwl i (by omega)
  · intro i hi
    rw [ed] at hi
    by_cases e : i = s.d
    · rw [e, ept]; exact ⟨t, (eo t).2 (.inr rfl), by rw [eft, elt], Reach.refl _⟩
    · obtain ⟨x, hx, e1, e2⟩ := h.lwx i (by omega)
      rw [ep i (by omega)]
      exact ⟨x, (eo x).2 (.inl hx), by rw [ef _ (one _ hx), el _ (pne i (by omega))]; exact e1, e2⟩
  · intro i v hs u hu
    rcases segs i v hs with ⟨rfl, rfl⟩ | ⟨hv, hs'⟩
    · left; rw [ept, ent]; exact ⟨rfl, (hL u).2 hu⟩
    · rw [ep i hs'.1, en i hs'.1, el _ (pne i hs'.1)]
      have tl : s.low (s.pa i) ≤ s.c + 1 := by
        have a1 := h.lwl i hs'.1
        have a2 := fle _ (h.pin i hs'.1)
        omega
      rcases h.edg i v hs' u hu with ⟨a, b⟩ | ⟨a, b⟩
      · rcases h1 i hs'.1 u b with h3 | h3
        · subst h3; right; rw [eft]; exact ⟨by omega, fun _ => tl⟩
        · exact .inl ⟨a, h3⟩
      · have hut : u ≠ t := fun e => a (e ▸ hf)
        right
        rw [ef u hut]
        refine ⟨a, fun ho => ?_⟩
        rcases (eo u).1 ho with h3 | h3
        · exact b h3
        · exact absurd h3 hut
  · intro v hv; exact h.d1 v ((eD v).1 hv)
  · intro v hv u hu
    have := h.d2 v ((eD v).1 hv) u hu
    exact ⟨(eD u).2 this.1, this.2⟩
  · intro u v hu hv; exact h.d3 u v ((eD u).1 hu) ((eD v).1 hv)
  · intro u v hu hv; exact h.d4 u v ((eD u).1 hu) ((eD v).1 hv)
  · intro u v hu hv; exact h.d5 u v ((eD u).1 hu) ((eD v).1 hv)
  · intro k hk
    obtain ⟨v, hv, e⟩ := h.d6 k hk
    exact ⟨v, (eD v).2 hv, e⟩

/-! ### A file that was found before is looked at -/
def St.look (s : St) (l : Nat) (nx0 : Nat → List Nat) : St := { s with low := upd s.low (s.pa (s.d - 1)) l, nx := nx0 }

theorem Inv.look (h : Inv n adj s) {t l : Nat} {nx0 : Nat → List Nat} (hd : 0 < s.d) (hf : s.f t ≠ 0) (hedge : t ∈ adj (s.pa (s.d - 1)))
    (h1 : ∀ i, i < s.d → ∀ u, u ∈ s.nx i → (i = s.d - 1 ∧ u = t) ∨ u ∈ nx0 i) (h2 : ∀ i, i < s.d → ∀ u, u ∈ nx0 i → u ∈ s.nx i)
    (hl1 : l ≤ s.low (s.pa (s.d - 1))) (hl2 : s.Open t → l ≤ s.f t) (hl3 : l = s.low (s.pa (s.d - 1)) ∨ (s.Open t ∧ l = s.f t)) : Inv n adj (s.look l nx0) := by
  have el : ∀ i, i < s.d → (s.look l nx0).low (s.pa i) ≤ s.low (s.pa i) := by
    intro i hi
    by_cases e : i = s.d - 1
    · rw [e, show (s.look l nx0).low (s.pa (s.d - 1)) = l from upd_same _ _ _]; exact hl1
    · rw [show (s.look l nx0).low (s.pa i) = s.low (s.pa i) from upd_other _ _ (h.pa_ne hi (by omega) e)]; exact Nat.le_refl _
  refine ⟨h.opv, h.opm, h.fc, h.pin, h.pm, h.base, h.ped, ?_, h.seg, ?_, ?_, ?_, h.d1, h.d2, h.d3, h.d4, h.d5, h.d6⟩
  · intro i hi u hu; exact h.nxs i hi u (h2 i hi u hu)
  · intro i hi
    have h3 := el i hi
    have h4 := h.lwl i hi
    show (s.look l nx0).low (s.pa i) ≤ s.f (s.pa i)
    omega
  · intro i hi
    by_cases e : i = s.d - 1
    · have e1 : (s.look l nx0).low ((s.look l nx0).pa i) = l := by rw [e]; exact upd_same _ _ _
      rw [e1]
      rcases hl3 with h3 | ⟨h3, h4⟩
      · obtain ⟨x, hx, e2, e3⟩ := h.lwx i hi
        exact ⟨x, hx, by rw [h3, ← e]; exact e2, e3⟩
      · exact ⟨t, h3, h4.symm, by subst e; exact Reach.edge hedge⟩
    · obtain ⟨x, hx, e2, e3⟩ := h.lwx i hi
      exact ⟨x, hx, by rw [show (s.look l nx0).low ((s.look l nx0).pa i) = s.low (s.pa i) from upd_other _ _ (h.pa_ne hi (by omega) e)]; exact e2, e3⟩
  · intro i v hs u hu
    have hi : i < s.d := hs.1
    have h3 := el i hi
    rcases h.edg i v hs u hu with ⟨a, b⟩ | ⟨a, b⟩
    · rcases h1 i hi u b with ⟨h4, h5⟩ | h4
      · right
        subst h5
        refine ⟨hf, fun ho => ?_⟩
        have e1 : (s.look l nx0).low ((s.look l nx0).pa i) = l := by rw [h4]; exact upd_same _ _ _
        rw [e1]
        exact hl2 ho
      · exact .inl ⟨a, h4⟩
    · right
      refine ⟨a, fun ho => ?_⟩
      have := b ho
      show (s.look l nx0).low (s.pa i) ≤ s.f u
      omega

/-! ### The walk goes back up -/
def St.lowUp (s : St) (e : Nat) : Nat → Nat := if 0 < e then upd s.low (s.pa (e - 1)) (min (s.low (s.pa (e - 1))) (s.low (s.pa e))) else s.low
def St.pop (s : St) : St := { s with d := s.d - 1, low := s.lowUp (s.d - 1) }

theorem Inv.lowUp_le (h : Inv n adj s) {e i : Nat} (he : s.d = e + 1) (hi : i < e) : s.lowUp e (s.pa i) ≤ s.low (s.pa i) := by
  unfold St.lowUp
  rw [if_pos (by omega)]
  by_cases e1 : i = e - 1
  · rw [e1, upd_same]; exact Nat.min_le_left _ _
  · rw [upd_other _ _ (h.pa_ne (by omega) (by omega) e1)]; exact Nat.le_refl _

theorem Inv.lowUp_other (h : Inv n adj s) {e i : Nat} (he : s.d = e + 1) (hi : i < e) (hne : i ≠ e - 1) : s.lowUp e (s.pa i) = s.low (s.pa i) := by
  unfold St.lowUp
  rw [if_pos (by omega)]
  exact upd_other _ _ (h.pa_ne (by omega) (by omega) hne)

theorem St.lowUp_last (s : St) {e : Nat} (he : 0 < e) : s.lowUp e (s.pa (e - 1)) = min (s.low (s.pa (e - 1))) (s.low (s.pa e)) := by
  unfold St.lowUp
  rw [if_pos he, upd_same]

theorem Inv.pop (h : Inv n adj s) {e : Nat} (he : s.d = e + 1) (hnx : s.nx e = []) (hlow : s.low (s.pa e) < s.f (s.pa e)) : Inv n adj s.pop := by
  have he0 : 0 < e := by
    obtain ⟨x, hx, e1, _⟩ := h.lwx e (by omega)
    have := (h.base x hx).2
    rcases Nat.eq_zero_or_pos e with h0 | h0
    · subst h0; omega
    · exact h0
  have ed : s.pop.d = e := by show s.d - 1 = e; omega
  have elow : s.pop.low = s.lowUp e := by show s.lowUp (s.d - 1) = _; rw [he]; rfl
  have segs : ∀ i v, s.pop.Seg i v → s.Seg i v ∨ (i = e - 1 ∧ s.Seg e v) := by
    rintro i v ⟨hi, ho, hle, hlt⟩
    rw [ed] at hi hlt
    by_cases h3 : i = e - 1
    · by_cases h4 : s.f (s.pa e) ≤ s.f v
      · exact .inr ⟨h3, by omega, ho, h4, fun h5 => by omega⟩
      · refine .inl ⟨by omega, ho, hle, fun h5 => ?_⟩
        rw [show i + 1 = e by omega]
        show s.f v < s.f (s.pa e)
        omega
    · exact .inl ⟨by omega, ho, hle, fun h5 => hlt (by omega)⟩
  have upe : Reach adj (s.pa (e - 1)) (s.pa e) := h.path_le (by omega) (by omega)
  have down : Reach adj (s.pa e) (s.pa (e - 1)) := by
    obtain ⟨x, hx, e1, e2⟩ := h.lwx e (by omega)
    obtain ⟨j, hj⟩ := h.segOf hx
    have hje : j < e := by
      have h3 := hj.1
      have h4 := hj.2.2.1
      by_cases h5 : j = e
      · subst h5; omega
      · omega
    exact (e2.trans (h.seg j x hj).1).trans (h.path_le (by omega) (by omega))
  refine ⟨h.opv, h.opm, h.fc, ?_, ?_, ?_, ?_, ?_, ?_, ?_, ?_, ?_, h.d1, h.d2, h.d3, h.d4, h.d5, h.d6⟩
  · intro i hi; rw [ed] at hi; exact h.pin i (by omega)
  · intro i j hij hj; rw [ed] at hj; exact h.pm i j hij (by omega)
  · intro v hv; exact ⟨by rw [ed]; exact he0, (h.base v hv).2⟩
  · intro i hi; rw [ed] at hi; exact h.ped i (by omega)
  · intro i hi; rw [ed] at hi; exact h.nxs i (by omega)
  · intro i v hs
    rcases segs i v hs with h3 | ⟨rfl, h3⟩
    · exact h.seg i v h3
    · have := h.seg e v h3
      exact ⟨this.1.trans down, upe.trans this.2⟩
  · intro i hi
    rw [ed] at hi
    have h3 := h.lowUp_le he hi
    have h4 := h.lwl i (by omega)
    rw [elow]
    show s.lowUp e (s.pa i) ≤ s.f (s.pa i)
    omega
  · intro i hi
    rw [ed] at hi
    rw [elow]
    by_cases h3 : i = e - 1
    · have e1 : s.lowUp e (s.pop.pa i) = min (s.low (s.pa (e - 1))) (s.low (s.pa e)) := by rw [h3]; exact s.lowUp_last he0
      rw [e1]
      by_cases h4 : s.low (s.pa (e - 1)) ≤ s.low (s.pa e)
      · rw [Nat.min_eq_left h4]
        obtain ⟨x, hx, e2, e3⟩ := h.lwx (e - 1) (by omega)
        exact ⟨x, hx, e2, by rw [h3]; exact e3⟩
      · rw [Nat.min_eq_right (by omega)]
        obtain ⟨x, hx, e2, e3⟩ := h.lwx e (by omega)
        exact ⟨x, hx, e2, by rw [h3]; exact upe.trans e3⟩
    · obtain ⟨x, hx, e2, e3⟩ := h.lwx i (by omega)
      exact ⟨x, hx, by rw [show s.lowUp e (s.pop.pa i) = s.low (s.pa i) from h.lowUp_other he hi h3]; exact e2, e3⟩
  · intro i v hs u hu
    have hi : i < e := by have := hs.1; rw [ed] at this; exact this
    have h4 := h.lowUp_le he hi
    rw [elow]
    rcases segs i v hs with h3 | ⟨rfl, h3⟩
    · rcases h.edg i v h3 u hu with a | ⟨a, b⟩
      · exact .inl a
      · right
        refine ⟨a, fun ho => ?_⟩
        have := b ho
        show s.lowUp e (s.pa i) ≤ s.f u
        omega
    · rcases h.edg e v h3 u hu with ⟨_, b⟩ | ⟨a, b⟩
      · rw [hnx] at b; cases b
      · right
        refine ⟨a, fun ho => ?_⟩
        have := b ho
        have h5 : s.lowUp e (s.pa (e - 1)) ≤ s.low (s.pa e) := by rw [s.lowUp_last he0]; exact Nat.min_le_right _ _
        show s.lowUp e (s.pa (e - 1)) ≤ s.f u
        omega

/-! ### A set is finished -/
def St.shut (s : St) (k : Nat) (num' : Nat → Nat) : St :=
  { s with d := s.d - 1, low := s.lowUp (s.d - 1), m := k, fin := s.fin + (s.m - k), num := num', lo := fun v => if num' v < s.fin then s.lo v else s.fin, hi := fun v => if num' v < s.fin then s.hi v else s.fin + (s.m - k) }

theorem Inv.shut (h : Inv n adj s) (hadj : ∀ v u, v < n → u ∈ adj v → u < n) {e k : Nat} {num' : Nat → Nat} (he : s.d = e + 1) (hnx : s.nx e = []) (hlow : s.low (s.pa e) = s.f (s.pa e)) (hk : k < s.m) (hop : s.op k = s.pa e)
    (hnew : ∀ i, k ≤ i → i < s.m → num' (s.op i) = s.fin + (i - k)) (hold : ∀ v, s.Done n v → num' v = s.num v) : Inv n adj (s.shut k num') := by
  have ed : (s.shut k num').d = e := by show s.d - 1 = e; omega
  have eo : ∀ v, (s.shut k num').Open v ↔ s.Open v ∧ s.f v < s.f (s.pa e) := by
    intro v
    constructor
    · rintro ⟨i, hi, rfl⟩
      have hi' : i < k := hi
      exact ⟨⟨i, by omega, rfl⟩, by rw [← hop]; exact h.opm i k hi' hk⟩
    · rintro ⟨⟨i, hi, rfl⟩, hlt⟩
      refine ⟨i, ?_, rfl⟩
      show i < k
      rcases Nat.lt_trichotomy i k with h3 | h3 | h3
      · exact h3
      · subst h3; rw [hop] at hlt; omega
      · have := h.opm k i h3 hi; rw [hop] at this; omega
  have newO : ∀ v, s.Open v → ¬ s.f v < s.f (s.pa e) → ∃ i, k ≤ i ∧ i < s.m ∧ s.op i = v := by
    rintro v ⟨i, hi, rfl⟩ hnl
    refine ⟨i, ?_, hi, rfl⟩
    rcases Nat.lt_or_ge i k with h3 | h3
    · exfalso; have := h.opm i k h3 hk; rw [hop] at this; exact hnl this
    · exact h3
  have segE : ∀ v, s.Open v → ¬ s.f v < s.f (s.pa e) → s.Seg e v := fun v hv hnl => ⟨by omega, hv, by omega, fun h3 => by omega⟩
  have eD : ∀ v, (s.shut k num').Done n v ↔ s.Done n v ∨ (s.Open v ∧ ¬ s.f v < s.f (s.pa e)) := by
    intro v
    constructor
    · rintro ⟨a, b, c⟩
      by_cases ho : s.Open v
      · right
        exact ⟨ho, fun hlt => c ((eo v).2 ⟨ho, hlt⟩)⟩
      · exact .inl ⟨a, b, ho⟩
    · rintro (⟨a, b, c⟩ | ⟨a, b⟩)
      · exact ⟨a, b, fun ho => c ((eo v).1 ho).1⟩
      · have := h.open_lt a
        exact ⟨this.1, this.2, fun ho => b ((eo v).1 ho).2⟩
  have numO : ∀ v, s.Done n v → num' v = s.num v ∧ num' v < s.fin := by
    intro v hv
    have h3 := hold v hv
    have h4 := h.d1 v hv
    exact ⟨h3, by omega⟩
  have numN : ∀ v, s.Open v → ¬ s.f v < s.f (s.pa e) → s.fin ≤ num' v ∧ num' v < s.fin + (s.m - k) := by
    intro v hv hnl
    obtain ⟨i, h3, h4, rfl⟩ := newO v hv hnl
    rw [hnew i h3 h4]
    omega
  have hiO : ∀ v, s.Done n v → (s.shut k num').hi v = s.hi v ∧ (s.shut k num').lo v = s.lo v ∧ (s.shut k num').num v = s.num v := by
    intro v hv
    have := numO v hv
    exact ⟨if_pos this.2, if_pos this.2, this.1⟩
  have hiN : ∀ v, s.Open v → ¬ s.f v < s.f (s.pa e) → (s.shut k num').hi v = s.fin + (s.m - k) ∧ (s.shut k num').lo v = s.fin := by
    intro v hv hnl
    have := numN v hv hnl
    exact ⟨if_neg (by omega), if_neg (by omega)⟩
  have efin : (s.shut k num').fin = s.fin + (s.m - k) := rfl
  have elow : ∀ i, i < e → (s.shut k num').low (s.pa i) = s.low (s.pa i) := by
    intro i hi
    show s.lowUp (s.d - 1) (s.pa i) = _
    rw [show s.d - 1 = e by omega]
    by_cases h3 : i = e - 1
    · rw [h3, s.lowUp_last (by omega)]
      apply Nat.min_eq_left
      have h4 := h.lwl (e - 1) (by omega)
      have h5 := h.pm (e - 1) e (by omega) (by omega)
      omega
    · exact h.lowUp_other he hi h3
  have segs : ∀ i v, (s.shut k num').Seg i v → s.Seg i v := by
    rintro i v ⟨hi, ho, hle, hlt⟩
    rw [ed] at hi hlt
    have ho' := (eo v).1 ho
    refine ⟨by omega, ho'.1, hle, fun h3 => ?_⟩
    by_cases h4 : i + 1 = e
    · rw [h4]; exact ho'.2
    · exact hlt (by omega)
  refine ⟨?_, ?_, h.fc, ?_, ?_, ?_, ?_, ?_, ?_, ?_, ?_, ?_, ?_, ?_, ?_, ?_, ?_, ?_⟩
  · intro i hi
    have hi' : i < k := hi
    exact h.opv i (by omega)
  · intro i j hij hj
    have hj' : j < k := hj
    exact h.opm i j hij (by omega)
  · intro i hi
    rw [ed] at hi
    exact (eo _).2 ⟨h.pin i (by omega), h.pm i e hi (by omega)⟩
  · intro i j hij hj; rw [ed] at hj; exact h.pm i j hij (by omega)
  · intro v hv
    have hv' := (eo v).1 hv
    have hb := h.base v hv'.1
    refine ⟨?_, hb.2⟩
    rw [ed]
    rcases Nat.eq_zero_or_pos e with h3 | h3
    · exfalso; subst h3; have := hv'.2; have := hb.2; omega
    · exact h3
  · intro i hi; rw [ed] at hi; exact h.ped i (by omega)
  · intro i hi; rw [ed] at hi; exact h.nxs i (by omega)
  · intro i v hs; exact h.seg i v (segs i v hs)
  · intro i hi
    rw [ed] at hi
    show (s.shut k num').low (s.pa i) ≤ s.f (s.pa i)
    rw [elow i hi]
    exact h.lwl i (by omega)
  · intro i hi
    rw [ed] at hi
    obtain ⟨x, hx, e1, e2⟩ := h.lwx i (by omega)
    refine ⟨x, (eo x).2 ⟨hx, ?_⟩, ?_, e2⟩
    · have h3 := h.lwl i (by omega)
      have h4 := h.pm i e hi (by omega)
      omega
    · show s.f x = (s.shut k num').low (s.pa i)
      rw [elow i hi]
      exact e1
  · intro i v hs u hu
    have hi : i < e := by have := hs.1; rw [ed] at this; exact this
    rcases h.edg i v (segs i v hs) u hu with a | ⟨a, b⟩
    · exact .inl a
    · right
      refine ⟨a, fun ho => ?_⟩
      show (s.shut k num').low (s.pa i) ≤ s.f u
      rw [elow i hi]
      exact b ((eo u).1 ho).1
  · intro v hv
    rcases (eD v).1 hv with h3 | ⟨h3, h4⟩
    · obtain ⟨a, b, c⟩ := hiO v h3
      have := h.d1 v h3
      rw [a, b, c, efin]
      omega
    · obtain ⟨a, b⟩ := hiN v h3 h4
      have := numN v h3 h4
      rw [a, b, efin]
      exact ⟨this.1, this.2, Nat.le_refl _⟩
  · intro v hv u hu
    rcases (eD v).1 hv with h3 | ⟨h3, h4⟩
    · obtain ⟨a, _, _⟩ := hiO v h3
      have h5 := h.d2 v h3 u hu
      obtain ⟨_, _, c⟩ := hiO u h5.1
      rw [a, c]
      exact ⟨(eD u).2 (.inl h5.1), h5.2⟩
    · obtain ⟨a, _⟩ := hiN v h3 h4
      rw [a]
      have hun : u < n := hadj v u (h.open_lt h3).1 hu
      rcases h.edg e v (segE v h3 h4) u hu with ⟨_, b⟩ | ⟨b, c⟩
      · rw [hnx] at b; cases b
      · by_cases ho : s.Open u
        · have h6 := c ho
          have h7 : ¬ s.f u < s.f (s.pa e) := by omega
          exact ⟨(eD u).2 (.inr ⟨ho, h7⟩), (numN u ho h7).2⟩
        · have hd : s.Done n u := ⟨hun, b, ho⟩
          have := numO u hd
          exact ⟨(eD u).2 (.inl hd), by show num' u < _; omega⟩
  · intro u v hu hv hl1 hl2
    rcases (eD u).1 hu with h3 | ⟨h3, h4⟩
    · obtain ⟨a, b, c⟩ := hiO u h3
      rcases (eD v).1 hv with h5 | ⟨h5, h6⟩
      · obtain ⟨a', b', c'⟩ := hiO v h5
        rw [b', c] at hl1
        rw [a', c] at hl2
        rw [a, a', b, b']
        exact h.d3 u v h3 h5 hl1 hl2
      · exfalso
        obtain ⟨_, b'⟩ := hiN v h5 h6
        rw [b', c] at hl1
        have := h.d1 u h3
        omega
    · obtain ⟨a, b⟩ := hiN u h3 h4
      rcases (eD v).1 hv with h5 | ⟨h5, h6⟩
      · exfalso
        obtain ⟨a', _, _⟩ := hiO v h5
        rw [a'] at hl2
        have h7 := h.d1 v h5
        have h8 := (numN u h3 h4).1
        have h9 : (s.shut k num').num u = num' u := rfl
        omega
      · obtain ⟨a', b'⟩ := hiN v h5 h6
        rw [a, a', b, b']
        exact ⟨rfl, rfl⟩
  · intro u v hu hv hh
    rcases (eD u).1 hu with h3 | ⟨h3, h4⟩
    · obtain ⟨a, _, _⟩ := hiO u h3
      rcases (eD v).1 hv with h5 | ⟨h5, h6⟩
      · obtain ⟨a', _, _⟩ := hiO v h5
        rw [a, a'] at hh
        exact h.d4 u v h3 h5 hh
      · exfalso
        obtain ⟨a', _⟩ := hiN v h5 h6
        rw [a, a'] at hh
        have := h.d1 u h3
        omega
    · obtain ⟨a, _⟩ := hiN u h3 h4
      rcases (eD v).1 hv with h5 | ⟨h5, h6⟩
      · exfalso
        obtain ⟨a', _, _⟩ := hiO v h5
        rw [a, a'] at hh
        have := h.d1 v h5
        omega
      · exact (h.seg e u (segE u h3 h4)).1.trans (h.seg e v (segE v h5 h6)).2
  · intro u v hu hv hh
    have hh' : num' u = num' v := hh
    rcases (eD u).1 hu with h3 | ⟨h3, h4⟩
    · have a := numO u h3
      rcases (eD v).1 hv with h5 | ⟨h5, h6⟩
      · have b := numO v h5
        exact h.d5 u v h3 h5 (by omega)
      · exfalso
        have := (numN v h5 h6).1
        omega
    · have a := numN u h3 h4
      rcases (eD v).1 hv with h5 | ⟨h5, h6⟩
      · exfalso
        have := numO v h5
        omega
      · obtain ⟨i, i1, i2, rfl⟩ := newO u h3 h4
        obtain ⟨j, j1, j2, rfl⟩ := newO v h5 h6
        rw [hnew i i1 i2, hnew j j1 j2] at hh'
        rw [show i = j by omega]
  · intro q hq
    rw [efin] at hq
    by_cases h3 : q < s.fin
    · obtain ⟨v, hv, e1⟩ := h.d6 q h3
      exact ⟨v, (eD v).2 (.inl hv), by rw [(hiO v hv).2.2]; exact e1⟩
    · have h4 : k ≤ k + (q - s.fin) := by omega
      have h5 : k + (q - s.fin) < s.m := by omega
      refine ⟨s.op (k + (q - s.fin)), (eD _).2 (.inr ⟨⟨_, h5, rfl⟩, ?_⟩), ?_⟩
      · rcases Nat.eq_or_lt_of_le h4 with h6 | h6
        · rw [← h6, hop]; omega
        · have := h.opm k _ h6 h5
          rw [hop] at this
          omega
      · show num' _ = q
        rw [hnew _ h4 h5]
        omega

/-! ### The start and the end -/
def St.start : St := { f := fun _ => 0, low := fun _ => 0, op := fun _ => 0, m := 0, pa := fun _ => 0, nx := fun _ => [], d := 0, c := 0, fin := 0, num := fun _ => 0, lo := fun _ => 0, hi := fun _ => 0 }

theorem Inv.start : Inv n adj St.start := by
  have no : ∀ v, ¬ St.start.Open v := fun v ⟨i, hi, _⟩ => absurd hi (Nat.not_lt_zero i)
  have nd : ∀ v, ¬ St.start.Done n v := fun v h => h.2.1 rfl
  refine ⟨?_, ?_, ?_, ?_, ?_, ?_, ?_, ?_, ?_, ?_, ?_, ?_, ?_, ?_, ?_, ?_, ?_, ?_⟩
  · intro i hi; exact absurd hi (Nat.not_lt_zero i)
  · intro i j _ hj; exact absurd hj (Nat.not_lt_zero j)
  · intro v _; exact Nat.le_refl _
  · intro i hi; exact absurd hi (Nat.not_lt_zero i)
  · intro i j _ hj; exact absurd hj (Nat.not_lt_zero j)
  · intro v hv; exact absurd hv (no v)
  · intro i hi; exact absurd hi (Nat.not_lt_zero _)
  · intro i hi; exact absurd hi (Nat.not_lt_zero i)
  · intro i v hs; exact absurd hs.2.1 (no v)
  · intro i hi; exact absurd hi (Nat.not_lt_zero i)
  · intro i hi; exact absurd hi (Nat.not_lt_zero i)
  · intro i v hs; exact absurd hs.2.1 (no v)
  · intro v hv; exact absurd hv (nd v)
  · intro v hv; exact absurd hv (nd v)
  · intro u v hu; exact absurd hu (nd u)
  · intro u v hu; exact absurd hu (nd u)
  · intro u v hu; exact absurd hu (nd u)
  · intro k hk; exact absurd hk (Nat.not_lt_zero k)

/-- WHAT THE NUMBERING IS GOOD FOR. -/
structure Numbered (n : Nat) (adj : Nat → List Nat) (num lo hi : Nat → Nat) : Prop where
  lt : ∀ v, v < n → num v < n
  inj : ∀ u v, u < n → v < n → num u = num v → u = v
  sur : ∀ k, k < n → ∃ v, v < n ∧ num v = k
  mid : ∀ v, v < n → lo v ≤ num v ∧ num v < hi v ∧ hi v ≤ n
  edge : ∀ v u, v < n → u ∈ adj v → num u < hi v
  same : ∀ u v, u < n → v < n → lo v ≤ num u → num u < hi v → hi u = hi v ∧ lo u = lo v
  reach : ∀ u v, u < n → v < n → hi u = hi v → Reach adj u v

/-- No more pigeons than holes. -/
theorem pigeon : ∀ (n k : Nat) (g : Nat → Nat), (∀ i, i < k → g i < n) → (∀ i j, i < k → j < k → g i = g j → i = j) → k ≤ n
  | 0, k, g, h1, _ => by
    rcases Nat.eq_zero_or_pos k with h | h
    · omega
    · exact absurd (h1 0 h) (Nat.not_lt_zero _)
  | n + 1, 0, _, _, _ => Nat.zero_le _
  | n + 1, k + 1, g, h1, h2 => by
    have := pigeon n k (fun i => if g i = n then g k else g i) (fun i hi => by
      by_cases e : g i = n
      · simp only [if_pos e]
        have h3 := h1 k (by omega)
        have h4 : g k ≠ n := fun e2 => by have := h2 i k (by omega) (by omega) (e.trans e2.symm); omega
        omega
      · simp only [if_neg e]
        have := h1 i (by omega)
        omega) (fun i j hi hj he => by
      by_cases e1 : g i = n
      · by_cases e2 : g j = n
        · exact h2 i j (by omega) (by omega) (e1.trans e2.symm)
        · simp only [if_pos e1, if_neg e2] at he
          have := h2 k j (by omega) (by omega) he
          omega
      · by_cases e2 : g j = n
        · simp only [if_neg e1, if_pos e2] at he
          have := h2 i k (by omega) (by omega) he
          omega
        · simp only [if_neg e1, if_neg e2] at he
          exact h2 i j (by omega) (by omega) he)
    omega

theorem Inv.numbered (h : Inv n adj s) (hd : s.d = 0) (hall : ∀ v, v < n → s.f v ≠ 0) : s.fin = n ∧ Numbered n adj s.num s.lo s.hi := by
  have hD : ∀ v, v < n → s.Done n v := fun v hv => ⟨hv, hall v hv, h.none_open hd v⟩
  have h1 : n ≤ s.fin := pigeon s.fin n s.num (fun i hi => by have := h.d1 i (hD i hi); omega) (fun i j hi hj e => h.d5 i j (hD i hi) (hD j hj) e)
  have h2 : s.fin ≤ n := by
    have hg : ∀ k, ∃ v, k < s.fin → (s.Done n v ∧ s.num v = k) := fun k => by
      by_cases hk : k < s.fin
      · obtain ⟨v, hv⟩ := h.d6 k hk
        exact ⟨v, fun _ => hv⟩
      · exact ⟨0, fun h3 => absurd h3 hk⟩
    refine pigeon n s.fin (fun k => Classical.choose (hg k)) (fun i hi => ?_) (fun i j hi hj e => ?_)
    · exact (Classical.choose_spec (hg i) hi).1.1
    · have a := (Classical.choose_spec (hg i) hi).2
      have b := (Classical.choose_spec (hg j) hj).2
      rw [← a, ← b]
      exact congrArg s.num e
  have hn : s.fin = n := by omega
  refine ⟨hn, ?_, ?_, ?_, ?_, ?_, ?_, ?_⟩
  · intro v hv; have := h.d1 v (hD v hv); omega
  · intro u v hu hv e; exact h.d5 u v (hD u hu) (hD v hv) e
  · intro k hk
    obtain ⟨v, hv, e⟩ := h.d6 k (by omega)
    exact ⟨v, hv.1, e⟩
  · intro v hv; have := h.d1 v (hD v hv); omega
  · intro v u hv hu; exact (h.d2 v (hD v hv) u hu).2
  · intro u v hu hv; exact h.d3 u v (hD u hu) (hD v hv)
  · intro u v hu hv; exact h.d4 u v (hD u hu) (hD v hv)
end Go.Proofs.Qxb6613158a.Tj
