/-
  WHAT newImportReach HANDS BACK, AS IT LIES.
-/
import Derived.Test.Qxb6613158aUnion
import Derived.Test.Qxb6613158aFind
namespace Go.Proofs.Qxb6613158a
open Go.RowKit Tj
set_option linter.unusedSimpArgs false
set_option linter.unusedVariables false

/-- Valid spans under a value; its block is one of J. -/
def SpansOk (w : World) (N : Nat) (J : Nat → Prop) (v : Value) : Prop := ∃ m f l, SpansAt w v m f l ∧ Valid N m f l ∧ ∀ g, v.ownBlock = some g → J g

theorem SpansOk.kept {S J J' : Nat → Prop} {w w' : World} {N : Nat} {v : Value} (h : SpansOk w N J v) (hk : Kept S w w') (hJ : ∀ g, J g → ¬ S g) (hJ' : ∀ g, J g → J' g) : SpansOk w' N J' v := by
  obtain ⟨m, f, l, h1, h2, h3⟩ := h
  exact ⟨m, f, l, h1.kept hk (fun g hg => hJ g (h3 g hg)), h2, fun g hg => hJ' g (h3 g hg)⟩

/-- Where the three rows lie. -/
def Places (H gN gB gA : Nat) : Prop := H ≤ gN ∧ gN ≤ H + 2 ∧ H ≤ gB ∧ gB ≤ H + 2 ∧ H ≤ gA ∧ gA ≤ H + 2 ∧ gN ≠ gB ∧ gN ≠ gA ∧ gB ≠ gA

/-- The struct's cells. -/
def reachCells (n gN gB gA : Nat) (cyc : Value) : Nat → Value := fun k => if k = 0 then .slice (some ⟨gN, 0, none⟩) n n else if k = 1 then .slice (some ⟨gB, 0, none⟩) n n else if k = 2 then .slice (some ⟨gA, 0, none⟩) n n else cyc

structure Res (H n gN gB gA : Nat) (w : World) (num : Nat → Nat) (bv : Nat → Value) (fa la : Nat → Int) (cyc : Value) (J : Nat → Prop) : Prop where
  rr : w.rowIs (H + 3) 83 4 (reachCells n gN gB gA cyc)
  nr : w.rowIs gN 21 n (fun i => .int .i32 (num i : Nat))
  br : w.rowIs gB 81 n bv
  ar : RowS w gA n n fa la
  av : ∀ i, i < n → 0 ≤ fa i ∧ fa i ≤ la i ∧ la i < n
  bs : ∀ i, i < n → SpansOk w n J (bv i)
  cs : SpansOk w n J cyc
  jj : ∀ g, J g → H + 13 ≤ g ∧ g < w.heap.size

variable {H n gN gB gA : Nat} {w w' : World} {num : Nat → Nat} {bv : Nat → Value} {fa la : Nat → Int} {cyc : Value} {J S : Nat → Prop}

theorem Res.kept (h : Res H n gN gB gA w num bv fa la cyc J) (hk : Kept S w w') (h3 : ¬ S (H + 3)) (hN : ¬ S gN) (hB : ¬ S gB) (hA : ¬ S gA) (hJ : ∀ g, J g → ¬ S g) : Res H n gN gB gA w' num bv fa la cyc J :=
  ⟨hk.row h.rr h3, hk.row h.nr hN, hk.row h.br hB, h.ar.kept hk hA, h.av, fun i hi => (h.bs i hi).kept hk hJ (fun _ h => h), h.cs.kept hk hJ (fun _ h => h), fun g hg => by have := h.jj g hg; have := hk.size; omega⟩

theorem Res.cell0 (h : Res H n gN gB gA w num bv fa la cyc J) : w.cell? ⟨H + 3, 0, none⟩ = some (.slice (some ⟨gN, 0, none⟩) n n) := h.rr.cell (show 0 < 4 by omega)
theorem Res.cell1 (h : Res H n gN gB gA w num bv fa la cyc J) : w.cell? ⟨H + 3, 1, none⟩ = some (.slice (some ⟨gB, 0, none⟩) n n) := h.rr.cell (show 1 < 4 by omega)
theorem Res.cell2 (h : Res H n gN gB gA w num bv fa la cyc J) : w.cell? ⟨H + 3, 2, none⟩ = some (.slice (some ⟨gA, 0, none⟩) n n) := h.rr.cell (show 2 < 4 by omega)
theorem Res.cell3 (h : Res H n gN gB gA w num bv fa la cyc J) : w.cell? ⟨H + 3, 3, none⟩ = some cyc := h.rr.cell (show 3 < 4 by omega)

/-- A row with some places set. -/
def setTo {α : Type} (f : Nat → α) (S : Nat → Nat) (v : Nat → α) : Nat → Nat → α
  | 0 => f
  | k + 1 => upd (setTo f S v k) (S k) (v k)

theorem setTo_out {α : Type} (f : Nat → α) (S : Nat → Nat) (v : Nat → α) : ∀ (k i : Nat), (∀ j, j < k → S j ≠ i) → setTo f S v k i = f i
  | 0, _, _ => rfl
  | k + 1, i, h => by
    show upd (setTo f S v k) (S k) (v k) i = _
    rw [upd_other _ _ (fun e => h k (by omega) e.symm)]
    exact setTo_out f S v k i (fun j hj => h j (by omega))

theorem setTo_in {α : Type} (f : Nat → α) (S : Nat → Nat) (v : Nat → α) : ∀ (k j : Nat), j < k → (∀ i, j < i → i < k → S i ≠ S j) → setTo f S v k (S j) = v j
  | 0, _, h, _ => absurd h (Nat.not_lt_zero _)
  | k + 1, j, h, hi => by
    show upd (setTo f S v k) (S k) (v k) (S j) = _
    by_cases e : j = k
    · rw [e, upd_same]
    · rw [upd_other _ _ (fun e2 => hi k (by omega) (by omega) e2.symm)]
      exact setTo_in f S v k j (by omega) (fun i h1 h2 => hi i h1 (by omega))

theorem setTo_const {α : Type} (f : Nat → α) (S : Nat → Nat) (x : α) : ∀ (k j : Nat), j < k → setTo f S (fun _ => x) k (S j) = x
  | 0, _, h => absurd h (Nat.not_lt_zero _)
  | k + 1, j, h => by
    show upd (setTo f S (fun _ => x) k) (S k) x (S j) = _
    by_cases e : S j = S k
    · rw [e, upd_same]
    · rw [upd_other _ _ e]
      by_cases e2 : j = k
      · exact absurd (by rw [e2]) e
      · exact setTo_const f S x k j (by omega)

/-- What finish may write. -/
def Sf (H gN gB gA : Nat) : Nat → Prop := fun b => b = H + 3 ∨ b = gN ∨ b = gB ∨ b = gA ∨ b = H + 8

theorem rowIs_updN {w : World} {g n t x : Nat} {f : Nat → Nat} (h : w.rowIs g 21 n (fun i => .int .i32 (f i : Nat))) : (w.setCell ⟨g, t, none⟩ (.int .i32 (x : Nat))).rowIs g 21 n (fun i => .int .i32 (upd f t x i : Nat)) :=
  (h.set t _).congr (fun j hj => by
    by_cases e : j = t
    · simp [e, upd_same]
    · simp [e, upd_other _ _ e])

theorem rowIs_updV {w : World} {g n t : Nat} {ty : TypeId} {x : Value} {f : Nat → Value} (h : w.rowIs g ty n f) : (w.setCell ⟨g, t, none⟩ x).rowIs g ty n (upd f t x) :=
  (h.set t _).congr (fun j hj => by
    by_cases e : j = t
    · simp [e, upd_same]
    · simp [e, upd_other _ _ e])

/-- Loop 1's round. -/
theorem Res.numbered {O : Nat → Bool} (hP : Places H gN gB gA) (h : Res H n gN gB gA w num bv fa la cyc J) (hO : w.rowIs (H + 8) 4 n (fun i => .bool (O i))) {t x : Nat} (ht : t < n) (hx : x < n) :
    (∃ fa' la', Res H n gN gB gA ((((w.setCell ⟨gN, t, none⟩ (.int .i32 (x : Nat))).setCells gA (t * 2) [.int .i32 (x : Nat), .int .i32 (x : Nat)]).setCell ⟨H + 8, t, none⟩ (.bool false)).drew) (upd num t x) bv fa' la' cyc J) ∧
    World.rowIs ((((w.setCell ⟨gN, t, none⟩ (.int .i32 (x : Nat))).setCells gA (t * 2) [.int .i32 (x : Nat), .int .i32 (x : Nat)]).setCell ⟨H + 8, t, none⟩ (.bool false)).drew) (H + 8) 4 n (fun i => .bool (upd O t false i)) ∧
    Kept (fun b => b = gN ∨ b = gA ∨ b = H + 8) w ((((w.setCell ⟨gN, t, none⟩ (.int .i32 (x : Nat))).setCells gA (t * 2) [.int .i32 (x : Nat), .int .i32 (x : Nat)]).setCell ⟨H + 8, t, none⟩ (.bool false)).drew) := by
  obtain ⟨p1, p2, p3, p4, p5, p6, p7, p8, p9⟩ := hP
  have kA : Kept (fun b => b = gN) w (w.setCell ⟨gN, t, none⟩ (.int .i32 (x : Nat))) := (Kept.refl (fun b => b = gN) w).setCell (.inl rfl) _
  have hA := (h.ar.kept kA (fun e => p8 e.symm)).setSpan t (x : Nat) (x : Nat)
  have hN := rowIs_updN (t := t) (x := x) h.nr
  generalize hw1 : w.setCell ⟨gN, t, none⟩ (.int .i32 (x : Nat)) = w1 at *
  have kB : Kept (fun b => b = gA) w1 (w1.setCells gA (t * 2) [.int .i32 (x : Nat), .int .i32 (x : Nat)]) := kept_setCells (S := fun b => b = gA) (.inl rfl) _ _ _ (Kept.refl _ _)
  generalize w1.setCells gA (t * 2) [.int .i32 (x : Nat), .int .i32 (x : Nat)] = w2 at *
  have hO2 : w2.rowIs (H + 8) 4 n (fun i => .bool (O i)) := kB.row (kA.row hO (fun e => by omega)) (fun e => by omega)
  have hO3 := rowIs_upd_bool (t := t) (b := false) hO2
  have kC : Kept (fun b => b = H + 8) w2 (w2.setCell ⟨H + 8, t, none⟩ (.bool false)) := (Kept.refl (fun b => b = H + 8) w2).setCell (.inl rfl) _
  generalize w2.setCell ⟨H + 8, t, none⟩ (.bool false) = w3 at *
  have kD : Kept noS w3 w3.drew := Kept.drewN noS _ 1
  have kE : Kept (fun b => b = gN ∨ b = gA ∨ b = H + 8) w w3.drew := (((kA.mono (T := fun b => b = gN ∨ b = gA ∨ b = H + 8) (fun x hx => .inl hx)).trans kB (fun x hx => .inl (.inr (.inl hx)))).trans kC (fun x hx => .inl (.inr (.inr hx)))).trans kD (fun x hx => hx.elim)
  refine ⟨⟨fun j => if j = t then ((x : Nat) : Int) else fa j, fun j => if j = t then ((x : Nat) : Int) else la j, ?_, ?_, ?_, ?_, ?_, ?_, ?_, ?_⟩, kD.row hO3 (fun h => h), kE⟩
  · exact kE.row h.rr (by omega)
  · exact kD.row (kC.row (kB.row hN (fun e => p8 e)) (fun e => by omega)) (fun h => h)
  · exact kE.row h.br (by omega)
  · exact (hA.kept kC (by omega)).kept kD (fun h => h)
  · intro i hi
    by_cases e : i = t
    · simp [e]; omega
    · simp only [if_neg e]; exact h.av i hi
  · exact fun i hi => (h.bs i hi).kept kE (fun g hg => by have := h.jj g hg; omega) (fun _ h => h)
  · exact h.cs.kept kE (fun g hg => by have := h.jj g hg; omega) (fun _ h => h)
  · exact fun g hg => by have := h.jj g hg; have := kE.size; omega

/-- Loop 4's round. -/
theorem Res.stored (hP : Places H gN gB gA) (h : Res H n gN gB gA w num bv fa la cyc J) {v : Value} (hv : SpansOk w n J v) (t : Nat) :
    Res H n gN gB gA (w.setCell ⟨gB, t, none⟩ v).drew num (upd bv t v) fa la cyc J ∧ Kept (fun b => b = gB) w (w.setCell ⟨gB, t, none⟩ v).drew := by
  obtain ⟨p1, p2, p3, p4, p5, p6, p7, p8, p9⟩ := hP
  have kE : Kept (fun b => b = gB) w (w.setCell ⟨gB, t, none⟩ v).drew := ((Kept.refl (fun b => b = gB) w).setCell (.inl rfl) _).trans (Kept.drewN noS _ 1) (fun x hx => hx.elim)
  have kJ : ∀ g, J g → ¬ g = gB := fun g hg => by have := h.jj g hg; omega
  refine ⟨⟨kE.row h.rr (by omega), kE.row h.nr p7, ?_, h.ar.kept kE (fun e => p9 e.symm), h.av, ?_, h.cs.kept kE kJ (fun _ h => h), fun g hg => by have := h.jj g hg; have := kE.size; omega⟩, kE⟩
  · exact (rowIs_updV h.br).drew
  · intro i hi
    by_cases e : i = t
    · rw [e, upd_same]; exact hv.kept kE kJ (fun _ h => h)
    · rw [upd_other _ _ e]; exact (h.bs i hi).kept kE kJ (fun _ h => h)

/-- The cycles' store. -/
theorem Res.cycled (hP : Places H gN gB gA) (h : Res H n gN gB gA w num bv fa la cyc J) {v : Value} (hv : SpansOk w n J v) :
    Res H n gN gB gA (w.setCell ⟨H + 3, 3, none⟩ v) num bv fa la v J ∧ Kept (fun b => b = H + 3) w (w.setCell ⟨H + 3, 3, none⟩ v) := by
  obtain ⟨p1, p2, p3, p4, p5, p6, p7, p8, p9⟩ := hP
  have kE : Kept (fun b => b = H + 3) w (w.setCell ⟨H + 3, 3, none⟩ v) := (Kept.refl (fun b => b = H + 3) w).setCell (.inl rfl) _
  have kJ : ∀ g, J g → ¬ g = H + 3 := fun g hg => by have := h.jj g hg; omega
  refine ⟨⟨?_, kE.row h.nr (by omega), kE.row h.br (by omega), h.ar.kept kE (by omega), h.av, fun i hi => (h.bs i hi).kept kE kJ (fun _ h => h), hv.kept kE kJ (fun _ h => h), fun g hg => by have := h.jj g hg; have := kE.size; omega⟩, kE⟩
  refine (h.rr.set 3 v).congr (fun j hj => ?_)
  unfold reachCells
  by_cases e : j = 3
  · simp [e]
  · rw [if_neg e]
    by_cases e0 : j = 0
    · simp [e0]
    · by_cases e1 : j = 1
      · simp [e1]
      · have e2 : j = 2 := by omega
        simp [e2]

theorem SpansOk.more {N : Nat} {J J' : Nat → Prop} {v : Value} (h : SpansOk w N J v) (hJ : ∀ g, J g → J' g) : SpansOk w N J' v := by
  obtain ⟨m, f, l, h1, h2, h3⟩ := h
  exact ⟨m, f, l, h1, h2, fun g hg => hJ g (h3 g hg)⟩

theorem Res.more {J' : Nat → Prop} (h : Res H n gN gB gA w num bv fa la cyc J) (hJ : ∀ g, J g → J' g) (hJ' : ∀ g, J' g → H + 13 ≤ g ∧ g < w.heap.size) : Res H n gN gB gA w num bv fa la cyc J' :=
  ⟨h.rr, h.nr, h.br, h.ar, h.av, fun i hi => (h.bs i hi).more hJ, h.cs.more hJ, hJ'⟩

/-- A sum. -/
def sumTo (g : Nat → Nat) : Nat → Nat
  | 0 => 0
  | k + 1 => sumTo g k + g k

theorem sumTo_le (g : Nat → Nat) : ∀ {k m : Nat}, k ≤ m → sumTo g k ≤ sumTo g m
  | k, 0, h => by obtain rfl : k = 0 := by omega
                  exact Nat.le_refl _
  | k, m + 1, h => by
    by_cases e : k = m + 1
    · rw [e]; exact Nat.le_refl _
    · have := sumTo_le g (k := k) (m := m) (by omega)
      show sumTo g k ≤ sumTo g m + g m
      omega

/-- What has been gathered: a row of the call's own, and all of it valid. -/
def Got (w : World) (B n : Nat) (x : Value) (cn : Nat) : Prop := ∃ f l, OwnS w B x cn f l ∧ (cn = 0 → x = .slice none 0 0) ∧ ∀ j, j < cn → 0 ≤ f j ∧ f j ≤ l j ∧ l j < n

theorem OwnS.own {w : World} {B : Nat} {v : Value} {n : Nat} {f l : Nat → Int} (h : OwnS w B v n f l) {q : Nat} (hq : v.ownBlock = some q) : B ≤ q ∧ q < w.heap.size := by
  rcases h with ⟨rfl, _⟩ | ⟨g, cap, rfl, hb, hr⟩
  · cases hq
  · have : g = q := by simpa [Value.ownBlock] using hq
    have := hr.lt
    omega

theorem OwnS.kept {S : Nat → Prop} {w w' : World} {B : Nat} {v : Value} {n : Nat} {f l : Nat → Int} (h : OwnS w B v n f l) (hk : Kept S w w') (hg : ∀ g, v.ownBlock = some g → ¬ S g) : OwnS w' B v n f l := by
  rcases h with h | ⟨g, cap, rfl, hb, hr⟩
  · exact .inl h
  · exact .inr ⟨g, cap, rfl, hb, hr.kept hk (hg g rfl)⟩

theorem Got.kept {S : Nat → Prop} {w w' : World} {B n : Nat} {x : Value} {cn : Nat} (h : Got w B n x cn) (hk : Kept S w w') (hg : ∀ g, x.ownBlock = some g → ¬ S g) : Got w' B n x cn := by
  obtain ⟨f, l, h1, h2, h3⟩ := h
  exact ⟨f, l, h1.kept hk hg, h2, h3⟩

theorem Got.own {w : World} {B n : Nat} {x : Value} {cn : Nat} (h : Got w B n x cn) {q : Nat} (hq : x.ownBlock = some q) : B ≤ q ∧ q < w.heap.size := by
  obtain ⟨f, l, h1, _⟩ := h
  exact h1.own hq

theorem behind_valid {n m k : Nat} {f l f' l' : Nat → Int} (h : ∀ j, j < m → 0 ≤ f j ∧ f j ≤ l j ∧ l j < n) (h' : ∀ j, j < k → 0 ≤ f' j ∧ f' j ≤ l' j ∧ l' j < n) : ∀ j, j < m + k → 0 ≤ behind m f f' j ∧ behind m f f' j ≤ behind m l l' j ∧ behind m l l' j < n := fun j hj => by
  unfold behind
  by_cases e : j < m
  · simp only [if_pos e]; exact h j e
  · simp only [if_neg e]; exact h' (j - m) (by omega)

/-- One span more, of a new block. -/
theorem Got.one {W : World} {B n : Nat} {x : Value} {cn q : Nat} {a b : Int} (h : Got W B n x cn) (hB : B ≤ W.heap.size) (h0 : W.cell? ⟨q, 0, none⟩ = some (.int .i32 a)) (h1 : W.cell? ⟨q, 1, none⟩ = some (.int .i32 b)) (hv : 0 ≤ a ∧ a ≤ b ∧ b < n) (hcn : cn < 1073741824) :
    ∃ g c w', (Builtin.append_ #[80, 80] 80 #[x, .slice (some ⟨q, 0, none⟩) 1 1]).run Try.prog W = .ok (.slice (some ⟨g, 0, none⟩) (cn + 1) c) w' ∧ Got w' B n (.slice (some ⟨g, 0, none⟩) (cn + 1) c) (cn + 1) ∧ Kept (fun b => x.ownBlock = some b) W w' ∧ (x.ownBlock = some g ∨ g = W.heap.size) := by
  obtain ⟨f, l, hO, _, hV⟩ := h
  have hs : SpansAt W (.slice (some ⟨q, 0, none⟩) 1 1) 1 (fun _ => a) (fun _ => b) := .inr ⟨q, 1, rfl, Nat.le_refl _, fun k hk => by
    obtain rfl : k = 0 := by omega
    exact ⟨h0, h1⟩⟩
  obtain ⟨g, c, w', hrun, hg, hr, hk, hat⟩ := append_spans 80 80 80 hO hs Try.underlying80 Try.underlying80 (by omega) hB (fun _ => by omega)
  exact ⟨g, c, w', hrun, ⟨_, _, .inr ⟨g, c, rfl, hg, hr⟩, fun h => by omega, behind_valid hV (fun j _ => hv)⟩, hk, hat⟩

/-- A list of spans more. -/
theorem Got.list {W : World} {B n g1 c1 : Nat} {cn mb : Nat} {v : Value} {fb lb : Nat → Int} (h : Got W B n (.slice (some ⟨g1, 0, none⟩) cn c1) cn) (hB : B ≤ W.heap.size) (hs : SpansAt W v mb fb lb) (hv : Valid n mb fb lb) (hn : n ≤ 4096) (hpos : 0 < cn) (hcn : cn + 4096 ≤ 1073741824) :
    ∃ g c w', (Builtin.append_ #[80, 81] 80 #[.slice (some ⟨g1, 0, none⟩) cn c1, v]).run Try.prog W = .ok (.slice (some ⟨g, 0, none⟩) (cn + mb) c) w' ∧ Got w' B n (.slice (some ⟨g, 0, none⟩) (cn + mb) c) (cn + mb) ∧ Kept (fun b => b = g1) W w' ∧ (g1 = g ∨ g = W.heap.size) := by
  obtain ⟨f, l, hO, _, hV⟩ := h
  have hmb := hv.1
  obtain ⟨g, c, w', hrun, hg, hr, hk, hat⟩ := append_spans 80 81 80 hO hs Try.underlying80 Try.underlying81 (by omega) hB (fun h => by cases h)
  refine ⟨g, c, w', hrun, ⟨_, _, .inr ⟨g, c, rfl, hg, hr⟩, fun h => by omega, behind_valid hV hv.2⟩, hk.mono (fun x hx => ?_), ?_⟩
  · have : g1 = x := by simpa [Value.ownBlock] using hx
    exact this.symm
  · rcases hat with h | h
    · exact .inl (by simpa [Value.ownBlock] using h)
    · exact .inr h

/-- Both, as the round does it. -/
theorem Got.both {W : World} {B n : Nat} {x : Value} {cn mb : Nat} {a b : Int} {v : Value} {fb lb : Nat → Int} (h : Got W B n x cn) (hB : B ≤ W.heap.size) (hv : 0 ≤ a ∧ a ≤ b ∧ b < n) (hs : SpansAt W v mb fb lb) (hV : Valid n mb fb lb) (hn : n ≤ 4096) (hb : ∀ g, v.ownBlock = some g → g < B) (hcn : cn + 4097 ≤ 1073741824) :
    ∃ g1 c1 w2 g2 c2 w3, (Builtin.append_ #[80, 80] 80 #[x, .slice (some ⟨W.heap.size, 0, none⟩) 1 1]).run Try.prog (W.drew.alloc (.cells #[.int .i32 a, .int .i32 b] 85)) = .ok (.slice (some ⟨g1, 0, none⟩) (cn + 1) c1) w2 ∧
      (Builtin.append_ #[80, 81] 80 #[.slice (some ⟨g1, 0, none⟩) (cn + 1) c1, v]).run Try.prog w2 = .ok (.slice (some ⟨g2, 0, none⟩) (cn + 1 + mb) c2) w3 ∧
      Got w3 B n (.slice (some ⟨g2, 0, none⟩) (cn + 1 + mb) c2) (cn + 1 + mb) ∧ Kept (fun b => x.ownBlock = some b) W w2 ∧ Kept (fun b => x.ownBlock = some b) W w3 ∧ (x.ownBlock = some g2 ∨ W.heap.size < g2) ∧ mb ≤ n := by
  have k0 : Kept noS W (W.drew.alloc (.cells #[.int .i32 a, .int .i32 b] 85)) := (Kept.drewN noS W 1).alloc _
  have hsz : (W.drew.alloc (.cells #[.int .i32 a, .int .i32 b] 85)).heap.size = W.heap.size + 1 := by simp
  have c0 : (W.drew.alloc (.cells #[.int .i32 a, .int .i32 b] 85)).cell? ⟨W.heap.size, 0, none⟩ = some (.int .i32 a) := cell_of_row _ _ 0 _ _ (0, 0) (alloc_at _ _ _ rfl)
  have c1 : (W.drew.alloc (.cells #[.int .i32 a, .int .i32 b] 85)).cell? ⟨W.heap.size, 1, none⟩ = some (.int .i32 b) := cell_of_row _ _ 1 _ _ (0, 0) (alloc_at _ _ _ rfl)
  obtain ⟨g1, c1, w2, r1, G1, k1, a1⟩ := (h.kept k0 (fun _ _ h => h)).one (q := W.heap.size) (by omega) c0 c1 hv (by omega)
  have k01 : Kept (fun b => x.ownBlock = some b) W w2 := (k0.mono (fun x hx => hx.elim)).trans k1 (fun x hx => .inl hx)
  have z1 := k1.size
  have hxo := fun q (hq : x.ownBlock = some q) => h.own hq
  obtain ⟨g2, c2, w3, r2, G2, k2, a2⟩ := G1.list (mb := mb) (v := v) (by omega) (hs.kept k01 (fun g hg hx => by have := hb g hg; have := hxo g hx; omega)) hV hn (by omega) (by omega)
  refine ⟨g1, c1, w2, g2, c2, w3, r1, r2, G2, k01, k01.trans k2 (fun x hx => ?_), ?_, hV.1⟩
  · rcases a1 with h1 | h1
    · exact .inl (by rw [hx]; exact h1)
    · exact .inr (by omega)
  · rcases a2 with h2 | h2
    · rcases a1 with h1 | h1
      · exact .inl (by rw [← h2]; exact h1)
      · exact .inr (by omega)
    · exact .inr (by omega)

/-- What comes of the cycles' union. -/
theorem cyc_done {w1 w4 w5 : World} {nm : Nat → Nat} {fa1 la1 : Nat → Int} {x v : Value} {cn : Nat} (hP : Places H gN gB gA) (hR : Res H n gN gB gA w1 nm bv fa1 la1 cyc J) (hz : H + 13 ≤ w1.heap.size) (hG : Got w4 w1.heap.size n x cn) (k4 : Kept noS w1 w4) (k45 : Kept noS w4 w5) (hz5 : w4.heap.size < w5.heap.size)
    (hU : UnionTo n (w4.heap.size + 1) cyc (.slice (some ⟨w4.heap.size, 0, none⟩) 1 1) w5 (.returned v)) :
    ∃ (cyc' : Value) (J' : Nat → Prop), Res H n gN gB gA (w5.setCell ⟨H + 3, 3, none⟩ v) nm bv fa1 la1 cyc' J' ∧ (∀ q, J q → J' q) ∧ (∀ q, J' q → J q ∨ w1.heap.size ≤ q) ∧ (∀ q, x.ownBlock = some q → ¬ J' q) ∧ Kept (fun b => b = H + 3) w1 (w5.setCell ⟨H + 3, 3, none⟩ v) ∧ Got (w5.setCell ⟨H + 3, 3, none⟩ v) w1.heap.size n x cn := by
  obtain ⟨v', nv, f, l, he, hs, hv, hor⟩ := hU
  obtain rfl : v = v' := by injection he
  have k5 : Kept noS w1 w5 := k4.trans k45 (fun x hx => hx.elim)
  have z4 := k4.size
  have R5 := hR.kept k5 (fun h => h) (fun h => h) (fun h => h) (fun h => h) (fun _ _ h => h)
  obtain ⟨_, _, _, _, _, hcJ⟩ := hR.cs
  have hvo : ∀ q, v.ownBlock = some q → J q ∨ (w4.heap.size ≤ q ∧ q < w5.heap.size) := fun q hq => by
    rcases hor with h | h | h
    · exact .inl (hcJ q (by rw [← h]; exact hq))
    · right
      rw [h] at hq
      have : w4.heap.size = q := by simpa [Value.ownBlock] using hq
      omega
    · have := h q hq
      exact .inr (by omega)
  have R6 := R5.more (J' := fun q => J q ∨ v.ownBlock = some q) (fun _ h => .inl h) (fun q hq => by
    rcases hq with h | h
    · exact R5.jj q h
    · rcases hvo q h with h2 | h2
      · exact R5.jj q h2
      · omega)
  obtain ⟨R7, k7⟩ := R6.cycled hP (v := v) ⟨nv, f, l, hs, hv, fun g hg => .inr hg⟩
  have hxo := fun q (hq : x.ownBlock = some q) => hG.own hq
  refine ⟨v, _, R7, fun q h => .inl h, fun q hq => ?_, fun q hq hJ => ?_, (k5.mono (fun x hx => hx.elim)).trans k7 (fun x hx => .inl hx), (hG.kept k45 (fun _ _ h => h)).kept k7 (fun q hq h => by have := hxo q hq; omega)⟩
  · rcases hq with h | h
    · exact .inl h
    · rcases hvo q h with h2 | h2
      · exact .inl h2
      · exact .inr (by omega)
  · have h1 := hxo q hq
    rcases hJ with h | h
    · have := (hR.jj q h).2; omega
    · rcases hvo q h with h2 | h2
      · have := (hR.jj q h2).2; omega
      · omega

/-- What spansOf makes of what has been gathered. -/
def BelowTo (n : Nat) (x : Value) (w' : World) (e : Ending) : Prop := ∃ v m f l, e = .returned v ∧ SpansAt w' v m f l ∧ Valid n m f l ∧ ∀ g, v.ownBlock = some g → x.ownBlock = some g

theorem spansOf_got {W : World} {B n : Nat} {x : Value} {cn : Nat} (h : Got W B n x cn) (hn : n ≤ 4096) (hcn : cn ≤ 1073741824) : Calls Try.prog 26 #[x] W fun e w' => BelowTo n x w' e ∧ Kept (fun b => x.ownBlock = some b) W w' := by
  obtain ⟨f, l, hO, h0, hV⟩ := h
  rcases Nat.eq_zero_or_pos cn with e | e
  · rw [h0 e]
    refine (spansOf_none W).mono ?_
    rintro _ _ ⟨rfl, rfl⟩
    exact ⟨⟨_, 0, fun _ => 0, fun _ => 0, rfl, .inl ⟨rfl, rfl⟩, ⟨Nat.zero_le _, fun j hj => absurd hj (Nat.not_lt_zero _)⟩, fun g hg => hg⟩, Kept.refl _ _⟩
  · rcases hO with ⟨_, h1⟩ | ⟨g, cap, rfl, hb, hr⟩
    · omega
    · refine (spansOf_any sortOk g cap cn n f l W e hcn hn hr hV).mono ?_
      rintro _ w' ⟨⟨m, f', l', rfl, hr', hm, hv⟩, hk⟩
      exact ⟨⟨_, m, f', l', rfl, .inr ⟨g, cap, rfl, by obtain ⟨_, _, hn, _⟩ := hr'; exact hn, hr'.in⟩, ⟨hm, hv⟩, fun q hq => by simpa [Value.ownBlock] using hq⟩, hk.mono (fun b hb => by rw [hb]; rfl)⟩
end Go.Proofs.Qxb6613158a
