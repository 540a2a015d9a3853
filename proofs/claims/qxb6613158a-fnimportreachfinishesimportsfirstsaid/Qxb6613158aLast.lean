/-
  A REGION THAT DRAWS ITS ORDER, ALL OF WHOSE OPERATIONS BUT THE LAST ONLY READ; THE LAST WAITS FOR ALL OF THEM: one walk in the text's order.
-/
import Derived.Test.Qxb6613158aStable
import Derived.BigQuiet
namespace Go.Proofs.Qxb6613158a
open Go.RowKit
set_option linter.unusedSimpArgs false
set_option linter.unusedVariables false

/-- The operation with nothing to do. -/
def idle (o : Oper) : Oper := { o with op := .move (.const undef), dst := none }

/-- The last comes last of all: who is no last is waited for by a later one; what each waits for stands ahead of it; no guards. -/
def lateB (l : List Oper) (o : Oper) : Bool :=
  ((List.range l.length).all fun j => (List.range (l ++ [o]).length).any fun i => decide (j < i) && ((l ++ [o])[i]?.map fun x => x.after.any fun e => Region.binds .any e && e.on == j).getD false) &&
  ((List.range (l ++ [o]).length).all fun i => ((l ++ [o])[i]?.map fun x => x.after.all fun e => !Region.binds .any e || decide (e.on < i)).getD true) &&
  ((l ++ [o]).all fun x => x.guard.isNone)

variable {P : Program} {C : World → Prop} {Q : Exit → Act → World → Prop} {l : List Oper} {o : Oper}

theorem idle_get_lt {i : Nat} (h : i < l.length) : (l ++ [idle o]).toArray[i]? = (l ++ [o]).toArray[i]? := by
  simp [List.getElem?_append_left h]

theorem idle_after (i : Nat) : ((l ++ [idle o]).toArray[i]?).map (·.after) = ((l ++ [o]).toArray[i]?).map (·.after) := by
  by_cases h : i < l.length
  · rw [idle_get_lt h]
  · by_cases e : i = l.length
    · subst e
      simp [idle]
    · have : l.length + 1 ≤ i := by omega
      rw [Array.getElem?_eq_none (by simp; omega), Array.getElem?_eq_none (by simp; omega)]

theorem ready_idle (listed : Array Bool) : Region.ready .any (l ++ [idle o]).toArray listed = Region.ready .any (l ++ [o]).toArray listed := by
  unfold Region.ready
  have hs : (l ++ [idle o]).toArray.size = (l ++ [o]).toArray.size := by simp
  rw [hs]
  apply List.filter_congr
  intro i _
  have h := idle_after (l := l) (o := o) i
  have e : ∀ x : Option Oper, (x.map (fun y => y.after.all fun e => !Region.binds .any e || listed.getD e.on false)).getD false = ((x.map (·.after)).map (fun af => af.all fun e => !Region.binds .any e || listed.getD e.on false)).getD false := fun x => by cases x <;> rfl
  rw [e, e, h]

theorem wanted_none {o : Oper} (h : o.guard = none) (f : Nat → Option Bool) : Region.wanted o f = true := by simp [Region.wanted, h]

theorem getD_true_false {listed : Array Bool} {j n : Nat} (hs : listed.size = n) (hj : j < n) (h : listed.getD j true ≠ false) : listed.getD j false = true := by
  have hj' : j < listed.size := by omega
  simp [hj'] at h ⊢
  exact h

theorem ready_some (hB : lateB l o = true) (listed : Array Bool) (hs : listed.size = l.length + 1) (hn : listed.getD l.length true = false) : Region.ready .any (l ++ [o]).toArray listed ≠ [] := by
  obtain ⟨i, hi, hmin⟩ := exists_least (p := fun i => listed.getD i true = false) ⟨_, hn⟩
  have hil : i ≤ l.length := hmin _ hn
  have hi' : i < (l ++ [o]).length := by simp; omega
  unfold lateB at hB
  simp only [Bool.and_eq_true] at hB
  obtain ⟨⟨_, h2⟩, _⟩ := hB
  rw [List.all_eq_true] at h2
  have h3 := h2 i (List.mem_range.2 hi')
  rw [List.getElem?_eq_getElem hi'] at h3
  simp only [Option.map_some, Option.getD_some] at h3
  intro h0
  have : i ∈ Region.ready .any (l ++ [o]).toArray listed := mem_ready.2 ⟨hi, (l ++ [o])[i], by simp [List.getElem?_eq_getElem hi'], fun e he hb => by
    have h4 := Array.all_eq_true_iff_forall_mem.1 h3 e he
    simp only [hb, Bool.not_true, Bool.false_or, decide_eq_true_eq] at h4
    exact getD_true_false hs (by omega) (fun h5 => by have := hmin _ h5; omega)⟩
  rw [h0] at this
  cases this

/-- What is listed waits for nobody who is not. -/
def Closed (ops : Array Oper) (listed : Array Bool) : Prop := ∀ i oi, ops[i]? = some oi → listed.getD i false = true → ∀ e ∈ oi.after, Region.binds .any e = true → listed.getD e.on false = true

theorem getD_set_true {listed : Array Bool} {i j : Nat} (h : listed.getD j false = true) : (listed.setIfInBounds i true).getD j false = true := by
  by_cases e : i = j
  · subst e
    rcases Nat.lt_or_ge i listed.size with h' | h'
    · simp [h']
    · simp [Array.getElem?_eq_none h'] at h
  · rw [getD_set_ne false e]; exact h

theorem Closed.set {ops : Array Oper} {listed : Array Bool} (h : Closed ops listed) {i : Nat} (hi : i ∈ Region.ready .any ops listed) : Closed ops (listed.setIfInBounds i true) := by
  obtain ⟨_, oi, hoi, hall⟩ := mem_ready.1 hi
  intro j oj hoj hj e he hb
  by_cases eij : i = j
  · subst eij
    rw [hoi] at hoj
    injection hoj with hoj
    subst hoj
    exact getD_set_true (hall e he hb)
  · rw [getD_set_ne false eij] at hj
    exact getD_set_true (h j oj hoj hj e he hb)

/-- When the last comes up, all the others have. -/
theorem last_full (hB : lateB l o = true) {listed : Array Bool} (hs : listed.size = l.length + 1) (hc : Closed (l ++ [o]).toArray listed) (hl : l.length ∈ Region.ready .any (l ++ [o]).toArray listed) : ∀ j, j < l.length → listed.getD j false = true := by
  unfold lateB at hB
  simp only [Bool.and_eq_true] at hB
  obtain ⟨⟨h1, _⟩, _⟩ := hB
  rw [List.all_eq_true] at h1
  obtain ⟨_, ol, hol, hall⟩ := mem_ready.1 hl
  suffices H : ∀ m j, l.length - j ≤ m → j < l.length → listed.getD j false = true from fun j hj => H _ j (Nat.le_refl _) hj
  intro m
  induction m with
  | zero => intro j h1 h2; omega
  | succ m ih =>
    intro j hm hj
    have h5 := h1 j (List.mem_range.2 hj)
    rw [List.any_eq_true] at h5
    obtain ⟨i, hi, h6⟩ := h5
    simp only [Bool.and_eq_true, decide_eq_true_eq] at h6
    obtain ⟨hji, h7⟩ := h6
    have hi' : i < (l ++ [o]).length := List.mem_range.1 hi
    rw [List.getElem?_eq_getElem hi'] at h7
    simp only [Option.map_some, Option.getD_some] at h7
    obtain ⟨ix, hix, hb⟩ := Array.any_eq_true.1 h7
    simp only [Bool.and_eq_true, beq_iff_eq] at hb
    have hget : (l ++ [o]).toArray[i]? = some (l ++ [o])[i] := by simp [List.getElem?_eq_getElem hi']
    by_cases e : i = l.length
    · subst e
      rw [hget] at hol
      injection hol with hol
      subst hol
      have := hall _ (Array.getElem_mem hix) hb.1
      rw [hb.2] at this
      exact this
    · have hil : i < l.length := by simp at hi'; omega
      have := hc i _ hget (ih i (by omega) hil) _ (Array.getElem_mem hix) hb.1
      rw [hb.2] at this
      exact this

/-- **THE LAW, from a state on.** -/
theorem late_any (hB : lateB l o = true) : ∀ (fuel : Nat) (listed : Array Bool) (a : Act) (w : World), Closed (l ++ [o]).toArray listed → C w → listed.size = l.length + 1 → listed.getD l.length true = false →
    wpAnyQ P .any (l ++ [idle o]).toArray C (fun a' => ∀ w', C w' → o.wp P a' w' (fun a'' w'' => Q .normal a'' w'') Q) fuel listed a → wpAny P .any (l ++ [o]).toArray Q fuel listed a w := by
  have hB' := hB
  unfold lateB at hB'
  simp only [Bool.and_eq_true] at hB'
  obtain ⟨⟨h1, h2⟩, h3⟩ := hB'
  have hg : ∀ x ∈ l ++ [o], x.guard = none := fun x hx => by simpa using List.all_eq_true.1 h3 x hx
  have hog : o.guard = none := hg o (by simp)
  intro fuel
  induction fuel with
  | zero =>
    intro listed a w hcl hC hs hn h
    have := ready_some hB listed hs hn
    rw [← ready_idle] at this
    exact absurd h.1 this
  | succ fuel ih =>
    intro listed a w hcl hC hs hn h
    refine ⟨fun h0 => absurd h0 (ready_some hB listed hs hn), fun i hi => ?_⟩
    have hi2 : i ∈ Region.ready .any (l ++ [idle o]).toArray listed := by rw [ready_idle]; exact hi
    have hq := h.2 i hi2
    obtain ⟨hun, oi, hoi, hall⟩ := mem_ready.1 hi
    by_cases e : i = l.length
    · subst e
      have hoo : (l ++ [o]).toArray[l.length]? = some o := by simp
      have hoo2 : (l ++ [idle o]).toArray[l.length]? = some (idle o) := by simp
      have he : oi = o := by rw [hoo] at hoi; injection hoi with h; exact h.symm
      subst he
      unfold qOp at hq
      simp only [hoo2] at hq
      rw [if_pos (wanted_none (o := idle oi) hog _)] at hq
      obtain ⟨v, _, hk⟩ := hq
      have hput : a.put (idle oi).dst v = a := rfl
      rw [hput] at hk
      have hfull : Region.ready .any (l ++ [oi]).toArray (listed.setIfInBounds l.length true) = [] := by
        rw [List.eq_nil_iff_forall_not_mem]
        intro j hj
        obtain ⟨hju, oj, hoj, _⟩ := mem_ready.1 hj
        have hjl : j < l.length + 1 := by
          have := (Array.getElem?_eq_some_iff.1 hoj).1
          simpa using this
        by_cases ej : j = l.length
        · rw [ej] at hju
          simp [hs] at hju
        · rw [getD_set_ne true (fun h => ej h.symm)] at hju
          have h6 := last_full hB hs hcl hi j (by omega)
          have hj' : j < listed.size := by omega
          simp [hj'] at h6 hju
          rw [hju] at h6
          cases h6
      have hfull2 : Region.ready .any (l ++ [idle oi]).toArray (listed.setIfInBounds l.length true) = [] := by rw [ready_idle]; exact hfull
      have hQ2 : ∀ w', C w' → oi.wp P a w' (fun a'' w'' => Q .normal a'' w'') Q := by
        cases fuel with
        | zero => exact hk.2
        | succ fuel => exact hk.1 hfull2
      unfold wpOp
      simp only [hoo]
      rw [if_pos (wanted_none hog _)]
      refine .inl (Oper.wp_mono (fun a' w' hq' => ?_) (hQ2 w hC))
      cases fuel with
      | zero => exact ⟨hfull, hq'⟩
      | succ fuel => exact ⟨fun _ => hq', by rw [hfull]; simp⟩
    · have hil : i < l.length := by
        have := (Array.getElem?_eq_some_iff.1 hoi).1
        simp at this
        omega
      have hoi2 : (l ++ [idle o]).toArray[i]? = some oi := by rw [idle_get_lt hil]; exact hoi
      have hgi : oi.guard = none := hg oi (by
        rw [List.getElem?_toArray] at hoi
        exact List.mem_of_getElem? hoi)
      unfold qOp at hq
      simp only [hoi2] at hq
      rw [if_pos (wanted_none hgi _)] at hq
      unfold wpOp
      simp only [hoi]
      rw [if_pos (wanted_none hgi _)]
      exact .inl (Oper.wp_of_quiet hC (fun a' w' hw' hk => ih (listed.setIfInBounds i true) a' w' (hcl.set hi) hw' (by simpa using hs) (by rw [getD_set_ne true e]; exact hn) hk) hq)

theorem wpQuiet_snoc {ops : Array Oper} {Q : Act → Prop} {x : Oper} : ∀ (l : List Oper) (a : Act), wpQuiet P ops C (fun a => wpQuiet P ops C Q [x] a) l a → wpQuiet P ops C Q (l ++ [x]) a
  | [], a, h => h
  | y :: l, a, h => by
    show (if Region.wanted y (yielded ops a.tmps) then y.quiet P a C (wpQuiet P ops C Q (l ++ [x])) else wpQuiet P ops C Q (l ++ [x]) (a.put y.dst undef))
    have h' : (if Region.wanted y (yielded ops a.tmps) then y.quiet P a C (wpQuiet P ops C (fun a => wpQuiet P ops C Q [x] a) l) else wpQuiet P ops C (fun a => wpQuiet P ops C Q [x] a) l (a.put y.dst undef)) := h
    split
    · rename_i hw
      rw [if_pos hw] at h'
      exact Oper.quiet_mono (fun a h => wpQuiet_snoc l a h) h'
    · rename_i hw
      rw [if_neg hw] at h'
      exact wpQuiet_snoc l _ h'

theorem wpQuiet_ops {ops ops' : Array Oper} {Q Q' : Act → Prop} (hQ : ∀ a, Q a → Q' a) : ∀ (l : List Oper) (a : Act), (∀ x ∈ l, x.guard = none) → wpQuiet P ops C Q l a → wpQuiet P ops' C Q' l a
  | [], a, _, h => hQ a h
  | y :: l, a, hg, h => by
    have hy := hg y (by simp)
    show (if Region.wanted y (yielded ops' a.tmps) then y.quiet P a C (wpQuiet P ops' C Q' l) else wpQuiet P ops' C Q' l (a.put y.dst undef))
    have h' : (if Region.wanted y (yielded ops a.tmps) then y.quiet P a C (wpQuiet P ops C Q l) else wpQuiet P ops C Q l (a.put y.dst undef)) := h
    rw [if_pos (wanted_none hy _)] at h' ⊢
    exact Oper.quiet_mono (fun a h => wpQuiet_ops hQ l a (fun x hx => hg x (by simp [hx])) h) h'

/-- **THE LAW**, for a region that is written out. -/
theorem wp_region_last {id : Nat} {a : Act} {w : World} {all : List Oper} (hm : P.follows .mixedOrders = true) (l : List Oper) (o : Oper) (hall : all = l ++ [o]) (hB : lateB l o = true) (hL : Region.lexB .any (l ++ [idle o]).toArray = true) (hC : C w.drew)
    (h : wpQuiet P all.toArray C (fun a' => ∀ w', C w' → o.wp P a' w' (fun a'' w'' => Q .normal a'' w'') Q) l a) : (Code.region id all.toArray true).wp P Q a w := by
  subst hall
  have hB' := hB
  unfold lateB at hB'
  simp only [Bool.and_eq_true] at hB'
  obtain ⟨⟨_, _⟩, h3⟩ := hB'
  have hg : ∀ x ∈ l ++ [o], x.guard = none := fun x hx => by simpa using List.all_eq_true.1 h3 x hx
  simp only [Region.lexB, Bool.and_eq_true] at hL
  refine wp_region_any hm (late_any (C := C) hB _ _ a _ (fun i oi _ h => by
      exfalso
      simp only [Array.getD_eq_getD_getElem?, Array.getElem?_replicate] at h
      split at h <;> simp at h) hC (by simp) (by simp) ?_)
  have hq : wpQuiet P (l ++ [idle o]).toArray C (fun a' => ∀ w', C w' → o.wp P a' w' (fun a'' w'' => Q .normal a'' w'') Q) (l ++ [idle o]) a := by
    refine wpQuiet_snoc l a (wpQuiet_ops (fun a' h' => ?_) l a (fun x hx => hg x (by simp [hx])) h)
    have hog : (idle o).guard = none := hg o (by simp)
    show (if Region.wanted (idle o) (yielded (l ++ [idle o]).toArray a'.tmps) then _ else _)
    rw [if_pos (wanted_none hog _)]
    refine BigFrame.quiet_move (.const undef) rfl ?_
    have hput : ∀ v, a'.put (idle o).dst v = a' := fun v => rfl
    rw [hput]
    exact h'
  have := wpAnyQ_lex (C := C) (md := .any) hL.1 (l ++ [idle o]) 0 (Array.replicate (l ++ [idle o]).toArray.size false) a (by simp) (by simpa using hL.2) hq
  simpa using this

/-- The last of a list of operations, run. -/
def lastWp (P : Program) (Q : Exit → Act → World → Prop) (all : List Oper) (a : Act) (w : World) : Prop :=
  match all.getLast? with
  | some o => o.wp P a w (fun a'' w'' => Q .normal a'' w'') Q
  | none => False

/-- The checks, on the whole list. -/
def lateAll (all : List Oper) : Bool :=
  match all.getLast? with
  | some o => lateB all.dropLast o && Region.lexB .any (all.dropLast ++ [idle o]).toArray
  | none => false

/-- **THE LAW**, as a walk wants it. -/
theorem wp_region_late {id : Nat} {a : Act} {w : World} {all : List Oper} (hm : P.follows .mixedOrders = true) (hB : lateAll all = true)
    (h : wpQuiet P all.toArray (fun w' => ∃ _u : Unit, w' = w.drew) (fun a' => lastWp P Q all a' w.drew) all.dropLast a) : (Code.region id all.toArray true).wp P Q a w := by
  unfold lateAll at hB
  cases hl : all.getLast? with
  | none => rw [hl] at hB; cases hB
  | some o =>
    rw [hl] at hB
    simp only [Bool.and_eq_true] at hB
    have hne : all ≠ [] := fun e => by rw [e] at hl; cases hl
    have hall : all = all.dropLast ++ [o] := by
      have h1 := List.dropLast_concat_getLast hne
      rw [List.getLast?_eq_some_getLast hne] at hl
      injection hl with h2
      rw [h2] at h1
      exact h1.symm
    refine wp_region_last (C := fun w' => ∃ _u : Unit, w' = w.drew) hm all.dropLast o hall hB.1 hB.2 ⟨(), rfl⟩ ?_
    refine wpQuiet_ops (fun a' h' => ?_) all.dropLast a ?_ h
    · rintro _ ⟨_, rfl⟩
      unfold lastWp at h'
      rw [hl] at h'
      exact h'
    · intro x hx
      have h3 := hB.1
      unfold lateB at h3
      simp only [Bool.and_eq_true] at h3
      simpa using List.all_eq_true.1 h3.2 x (by simp [hx])
end Go.Proofs.Qxb6613158a
