/-
  THE PLAIN LAW of 'FnImportReachFinishesImportsFirst': what the law's tests ask follows from the numbering. No Go in sight.
-/
import Derived.Test.Qxb6613158aTarjan
namespace Go.Proofs.Qxb6613158a.Tj
set_option linter.unusedVariables false
set_option linter.unusedSimpArgs false
variable {n : Nat} {adj : Nat → List Nat} {num lo hi : Nat → Nat}

/-- By one or more steps. -/
def Reach1 (adj : Nat → List Nat) (u v : Nat) : Prop := ∃ k, ReachN adj (k + 1) u v

theorem Reach1.edge {u v : Nat} (h : v ∈ adj u) : Reach1 adj u v := ⟨0, v, h, rfl⟩
theorem Reach1.reach {u v : Nat} (h : Reach1 adj u v) : Reach adj u v := by
  obtain ⟨k, h⟩ := h
  exact ⟨k + 1, h⟩
theorem Reach.one {u v : Nat} (h : Reach adj u v) (hne : u ≠ v) : Reach1 adj u v := by
  obtain ⟨k, h⟩ := h
  cases k with
  | zero => exact absurd h hne
  | succ k => exact ⟨k, h⟩
theorem Reach1.step {u v w : Nat} (h : Reach1 adj u v) (e : w ∈ adj v) : Reach1 adj u w := by
  obtain ⟨k, h⟩ := h
  have := reachN_trans (k + 1) h (show ReachN adj 1 v w from ⟨w, e, rfl⟩)
  exact ⟨k + 1, by rwa [show k + 1 + 1 = k + 1 + 1 from rfl] at this⟩

/-! ### The graph turned round -/
theorem reachN_rev {r : Nat → List Nat} (hr : ∀ u v, u ∈ adj v ↔ v ∈ r u) : ∀ (k : Nat) {u v : Nat}, ReachN adj k u v → ReachN r k v u
  | 0, u, v, h => (show u = v from h).symm
  | k + 1, u, v, ⟨x, hx, h⟩ => by
    have h1 := reachN_rev hr k h
    exact reachN_trans k h1 (show ReachN r 1 x u from ⟨u, (hr x u).1 hx, rfl⟩)

theorem reach1_rev {r : Nat → List Nat} (hr : ∀ u v, u ∈ adj v ↔ v ∈ r u) {u v : Nat} : Reach1 adj u v ↔ Reach1 r v u :=
  ⟨fun ⟨k, h⟩ => ⟨k, reachN_rev hr (k + 1) h⟩, fun ⟨k, h⟩ => ⟨k, reachN_rev (fun a b => (hr b a).symm) (k + 1) h⟩⟩

/-! ### Sets are intervals -/
theorem Numbered.hi_edge (h : Numbered n adj num lo hi) {u v : Nat} (hu : u < n) (hv : v < n) (e : v ∈ adj u) : hi v ≤ hi u := by
  have h1 := h.edge u v hu e
  have mu := h.mid u hu
  have mv := h.mid v hv
  by_cases h2 : lo u ≤ num v
  · rw [(h.same v u hv hu h2 h1).1]; exact Nat.le_refl _
  · by_cases h3 : hi v ≤ lo u
    · omega
    · exfalso
      obtain ⟨w, hw, ew⟩ := h.sur (lo u) (by omega)
      have a := h.same w v hw hv (by omega) (by omega)
      have b := h.same w u hw hu (by omega) (by omega)
      omega

theorem Numbered.hi_reachN (h : Numbered n adj num lo hi) (hadj : ∀ v u, v < n → u ∈ adj v → u < n) : ∀ (k : Nat) {u v : Nat}, u < n → ReachN adj k u v → v < n ∧ hi v ≤ hi u
  | 0, u, v, hu, e => by
    have e' : u = v := e
    subst e'
    exact ⟨hu, Nat.le_refl _⟩
  | k + 1, u, v, hu, ⟨x, hx, r⟩ => by
    have hxn := hadj u x hu hx
    have := h.hi_reachN hadj k hxn r
    have h2 := h.hi_edge hu hxn hx
    exact ⟨this.1, by omega⟩

/-- Files that reach one another are of one set, and only they. -/
theorem Numbered.group (h : Numbered n adj num lo hi) (hadj : ∀ v u, v < n → u ∈ adj v → u < n) {i j : Nat} (hi' : i < n) (hj : j < n) : (j = i ∨ (Reach1 adj i j ∧ Reach1 adj j i)) ↔ hi j = hi i := by
  constructor
  · rintro (rfl | ⟨⟨a, ha⟩, ⟨b, hb⟩⟩)
    · rfl
    · have h1 := (h.hi_reachN hadj _ hi' ha).2
      have h2 := (h.hi_reachN hadj _ hj hb).2
      omega
  · intro e
    by_cases hij : j = i
    · exact .inl hij
    · exact .inr ⟨(h.reach i j hi' hj e.symm).one (fun e2 => hij e2.symm), (h.reach j i hj hi' e).one hij⟩

/-- A file that f imports and that is not numbered below it reaches f back. -/
theorem Numbered.back (h : Numbered n adj num lo hi) {i j : Nat} (hi' : i < n) (hj : j < n) (e : j ∈ adj i) (hge : num i ≤ num j) : Reach1 adj j i := by
  have mi := h.mid i hi'
  have hs := h.same j i hj hi' (by omega) (h.edge i j hi' e)
  by_cases hij : j = i
  · subst hij; exact Reach1.edge e
  · exact (h.reach j i hj hi' hs.1).one hij

theorem Numbered.inset (h : Numbered n adj num lo hi) {i j : Nat} (hi' : i < n) (hj : j < n) : hi j = hi i ↔ (lo i ≤ num j ∧ num j < hi i) := by
  constructor
  · intro e
    have mi := h.mid i hi'
    have mj := h.mid j hj
    refine ⟨?_, by omega⟩
    -- the two intervals end alike: so they begin alike
    obtain ⟨w, hw, ew⟩ := h.sur (hi i - 1) (by omega)
    have a := h.same w i hw hi' (by omega) (by omega)
    have b := h.same w j hw hj (by omega) (by omega)
    omega
  · rintro ⟨a, b⟩
    exact (h.same j i hj hi' a b).1

/-! ### Counting -/
def cnt (p : Nat → Bool) : Nat → Nat
  | 0 => 0
  | k + 1 => cnt p k + (if p k then 1 else 0)

theorem cnt_congr {p q : Nat → Bool} : ∀ (k : Nat), (∀ j, j < k → p j = q j) → cnt p k = cnt q k
  | 0, _ => rfl
  | k + 1, h => by
    simp only [cnt]
    rw [cnt_congr k (fun j hj => h j (by omega)), h k (by omega)]

theorem cnt_none {p : Nat → Bool} : ∀ (k : Nat), (∀ j, j < k → p j = false) → cnt p k = 0
  | 0, _ => rfl
  | k + 1, h => by
    simp only [cnt]
    rw [cnt_none k (fun j hj => h j (by omega)), h k (by omega)]
    rfl

theorem cnt_one {p : Nat → Bool} : ∀ (k v : Nat), v < k → p v = true → (∀ j, j < k → p j = true → j = v) → cnt p k = 1
  | 0, v, hv, _, _ => absurd hv (Nat.not_lt_zero v)
  | k + 1, v, hv, h1, h2 => by
    simp only [cnt]
    by_cases e : v = k
    · subst e
      rw [cnt_none v (fun j hj => by
        cases hp : p j with
        | false => rfl
        | true => have := h2 j (by omega) hp; omega), h1]
      rfl
    · rw [cnt_one k v (by omega) h1 (fun j hj hp => h2 j (by omega) hp)]
      have : p k = false := by
        cases hp : p k with
        | false => rfl
        | true => have := h2 k (by omega) hp; omega
      rw [this]
      rfl

theorem cnt_add (p q r : Nat → Bool) : ∀ (k : Nat), (∀ j, j < k → (if r j then 1 else 0) = (if p j then 1 else 0) + (if q j then 1 else 0)) → cnt r k = cnt p k + cnt q k
  | 0, _ => rfl
  | k + 1, h => by
    simp only [cnt]
    rw [cnt_add p q r k (fun j hj => h j (by omega)), h k (by omega)]
    omega

/-- As many files are numbered below k as k says. -/
theorem Numbered.below (h : Numbered n adj num lo hi) : ∀ (k : Nat), k ≤ n → cnt (fun j => decide (num j < k)) n = k
  | 0, _ => cnt_none n (fun j _ => by simp)
  | k + 1, hk => by
    obtain ⟨v, hv, ev⟩ := h.sur k (by omega)
    have h1 := h.below k (by omega)
    have h2 : cnt (fun j => decide (num j = k)) n = 1 := cnt_one n v hv (by simp [ev]) (fun j hj hp => h.inj j v hj hv (by simp at hp; omega))
    have h3 := cnt_add (fun j => decide (num j < k)) (fun j => decide (num j = k)) (fun j => decide (num j < k + 1)) n (fun j hj => by
      by_cases a : num j < k
      · have b : ¬ num j = k := by omega
        have c : num j < k + 1 := by omega
        simp [a, b, c]
      · by_cases b : num j = k
        · have c : num j < k + 1 := by omega
          simp [b]
        · have c : ¬ num j < k + 1 := by omega
          simp [a, b, c])
    omega

/-- A set has as many files as its interval has numbers. -/
theorem Numbered.size (h : Numbered n adj num lo hi) {i : Nat} (hi' : i < n) : cnt (fun j => decide (hi j = hi i)) n = hi i - lo i := by
  have mi := h.mid i hi'
  have h1 := h.below (hi i) mi.2.2
  have h2 := h.below (lo i) (by omega)
  have h3 := cnt_add (fun j => decide (num j < lo i)) (fun j => decide (hi j = hi i)) (fun j => decide (num j < hi i)) n (fun j hj => by
    have hs := h.inset hi' hj
    by_cases a : num j < lo i
    · have b : ¬ hi j = hi i := fun e => by have := hs.1 e; omega
      have c : num j < hi i := by omega
      simp [a, b, c]
    · by_cases b : num j < hi i
      · have e : hi j = hi i := hs.2 ⟨by omega, b⟩
        simp [a, b, e]
      · have e : ¬ hi j = hi i := fun e => by have := hs.1 e; omega
        simp [a, b, e])
  omega

/-- WHAT THE LOOP OVER A SET's FILES HOLDS: the least, the greatest number met, how many. -/
structure SetTo (num hi : Nat → Nat) (i k a b c : Nat) : Prop where
  ge : a ≤ num i
  le : num i ≤ b
  all : ∀ j, j < k → hi j = hi i → a ≤ num j ∧ num j ≤ b
  from1 : ∃ j, (j = i ∨ j < k) ∧ hi j = hi i ∧ num j = a
  from2 : ∃ j, (j = i ∨ j < k) ∧ hi j = hi i ∧ num j = b
  count : c = cnt (fun j => decide (hi j = hi i)) k

theorem SetTo.start (i : Nat) : SetTo num hi i 0 (num i) (num i) 0 :=
  ⟨Nat.le_refl _, Nat.le_refl _, (fun j hj => absurd hj (Nat.not_lt_zero j)), ⟨i, .inl rfl, rfl, rfl⟩, ⟨i, .inl rfl, rfl, rfl⟩, rfl⟩

theorem SetTo.miss {i k a b c : Nat} (h : SetTo num hi i k a b c) (e : ¬ hi k = hi i) : SetTo num hi i (k + 1) a b c := by
  refine ⟨h.ge, h.le, fun j hj e2 => ?_, ?_, ?_, ?_⟩
  · by_cases hjk : j = k
    · subst hjk; exact absurd e2 e
    · exact h.all j (by omega) e2
  · obtain ⟨j, hj, r⟩ := h.from1
    exact ⟨j, by omega, r⟩
  · obtain ⟨j, hj, r⟩ := h.from2
    exact ⟨j, by omega, r⟩
  · simp [cnt, e, h.count]

theorem SetTo.hit {i k a b c : Nat} (h : SetTo num hi i k a b c) (e : hi k = hi i) : SetTo num hi i (k + 1) (if num k < a then num k else a) (if b < num k then num k else b) (c + 1) := by
  have h1 := h.ge
  have h2 := h.le
  refine ⟨by split <;> omega, by split <;> omega, fun j hj e2 => ?_, ?_, ?_, ?_⟩
  · by_cases hjk : j = k
    · subst hjk; refine ⟨?_, ?_⟩ <;> split <;> omega
    · have := h.all j (by omega) e2
      refine ⟨?_, ?_⟩ <;> split <;> omega
  · by_cases hc : num k < a
    · rw [if_pos hc]; exact ⟨k, .inr (by omega), e, rfl⟩
    · rw [if_neg hc]
      obtain ⟨j, hj, r⟩ := h.from1
      exact ⟨j, by omega, r⟩
  · by_cases hc : b < num k
    · rw [if_pos hc]; exact ⟨k, .inr (by omega), e, rfl⟩
    · rw [if_neg hc]
      obtain ⟨j, hj, r⟩ := h.from2
      exact ⟨j, by omega, r⟩
  · simp [cnt, e, h.count]

/-- THE END: consecutive numbers. -/
theorem Numbered.consecutive (h : Numbered n adj num lo hi) {i a b c : Nat} (hi' : i < n) (hs : SetTo num hi i n a b c) : a ≤ b ∧ b < n ∧ b - a + 1 = c := by
  have mi := h.mid i hi'
  have hc := hs.count
  rw [h.size hi'] at hc
  obtain ⟨w1, hw1, e1⟩ := h.sur (lo i) (by omega)
  obtain ⟨w2, hw2, e2⟩ := h.sur (hi i - 1) (by omega)
  have a1 := hs.all w1 hw1 ((h.inset hi' hw1).2 (by omega))
  have a2 := hs.all w2 hw2 ((h.inset hi' hw2).2 (by omega))
  obtain ⟨j1, hj1, f1, g1⟩ := hs.from1
  obtain ⟨j2, hj2, f2, g2⟩ := hs.from2
  have b1 := (h.inset hi' (show j1 < n by omega)).1 f1
  have b2 := (h.inset hi' (show j2 < n by omega)).1 f2
  omega
end Go.Proofs.Qxb6613158a.Tj
