/-
  A REGION THAT DRAWS ITS ORDER AND WHOSE LAST OPERATION WAITS FOR ALL THE OTHERS: walked without the last (held), the last behind it.
-/
import Derived.Test.Qxb6613158aLast
import Derived.Deep.RegionHeld3
namespace Go.Proofs.Qxb6613158a
open Go.RowKit
set_option linter.unusedSimpArgs false
set_option linter.unusedVariables false

variable {P : Program} {C : World → Prop} {Q : Exit → Act → World → Prop} {l : List Oper} {o : Oper}

/-- Where the walk without the last ends, the last is run. -/
def LateQ (P : Program) (o : Oper) (Q : Exit → Act → World → Prop) : Exit → Act → World → Prop
  | .normal, a, w => o.wp P a w (fun a'' w'' => Q .normal a'' w'') Q
  | e, a, w => Q e a w

theorem letsOut_late (h : LetsOut (LateQ P o Q)) : LetsOut Q := let ⟨a, w, h⟩ := h; ⟨a, w, h⟩

theorem wp_post {x : Oper} {a : Act} {w : World} {K : Act → World → Prop} (hh : x.wp P a w K (LateQ P o Q)) : x.wp P a w K Q := by
  unfold Oper.wp at *
  generalize (execOp a.eval x).run P w = r at *
  cases r with
  | ok n w' =>
    cases n <;> simp only [Oper.upon] at hh ⊢ <;>
      first
        | exact hh
        | exact Calls.mono hh (fun e w'' he => by cases e <;> first | exact he | exact letsOut_late he)
        | exact Rows.mono hh (fun _ _ he => he)
  | halt x w' =>
    cases x <;> simp only [Oper.upon] at hh ⊢ <;> first | exact hh | exact letsOut_late hh

theorem idle_run (a : Act) (w : World) : (execOp a.eval (idle o)).run P w = .ok (.value undef) w := by
  simp [execOp, idle, Act.eval]

theorem idle_trace (a : Act) (w : World) : ((execOp a.eval (idle o)).runT P w #[]).2 = #[] := by
  simp [execOp, idle, Act.eval]
  rfl

theorem late_held (hB : lateB l o = true) : ∀ (fuel : Nat) (listed : Array Bool) (a : Act) (w : World), Closed (l ++ [o]).toArray listed → listed.size = l.length + 1 → listed.getD l.length true = false →
    wpAny P .any (l ++ [idle o]).toArray (LateQ P o Q) fuel listed a w → wpAny P .any (l ++ [o]).toArray Q fuel listed a w := by
  have hB' := hB
  unfold lateB at hB'
  simp only [Bool.and_eq_true] at hB'
  obtain ⟨⟨h1, h2⟩, h3⟩ := hB'
  have hg : ∀ x ∈ l ++ [o], x.guard = none := fun x hx => by simpa using List.all_eq_true.1 h3 x hx
  have hog : o.guard = none := hg o (by simp)
  intro fuel
  induction fuel with
  | zero =>
    intro listed a w hcl hs hn h
    have := ready_some hB listed hs hn
    rw [← ready_idle] at this
    exact absurd h.1 this
  | succ fuel ih =>
    intro listed a w hcl hs hn h
    refine ⟨fun h0 => absurd h0 (ready_some hB listed hs hn), fun i hi => ?_⟩
    have hi2 : i ∈ Region.ready .any (l ++ [idle o]).toArray listed := by rw [ready_idle]; exact hi
    have hq := h.2 i hi2
    obtain ⟨hun, oi, hoi, hall⟩ := mem_ready.1 hi
    by_cases e : i = l.length
    · subst e
      have hoo : (l ++ [o]).toArray[l.length]? = some o := by simp
      have hoo2 : (l ++ [idle o]).toArray[l.length]? = some (idle o) := by simp
      have he : oi = o := by rw [hoo] at hoi; injection hoi with h; exact h.symm
      subst he
      unfold wpOp at hq
      simp only [hoo2] at hq
      rw [if_pos (wanted_none (o := idle oi) hog _)] at hq
      have hfull : Region.ready .any (l ++ [oi]).toArray (listed.setIfInBounds l.length true) = [] := by
        rw [List.eq_nil_iff_forall_not_mem]
        intro j hj
        obtain ⟨hju, oj, hoj, _⟩ := mem_ready.1 hj
        have hjl : j < l.length + 1 := by
          have := (Array.getElem?_eq_some_iff.1 hoj).1
          simpa using this
        by_cases ej : j = l.length
        · rw [ej] at hju
          simp [hs] at hju
        · rw [getD_set_ne true (fun h => ej h.symm)] at hju
          have h6 := last_full hB hs hcl hi j (by omega)
          have hj' : j < listed.size := by omega
          simp [hj'] at h6 hju
          rw [hju] at h6
          cases h6
      have hfull2 : Region.ready .any (l ++ [idle oi]).toArray (listed.setIfInBounds l.length true) = [] := by rw [ready_idle]; exact hfull
      have hk : wpAny P .any (l ++ [idle oi]).toArray (LateQ P oi Q) fuel (listed.setIfInBounds l.length true) a w := by
        rcases hq with hq | hq
        · unfold Oper.wp at hq
          rw [idle_run] at hq
          have hput : a.put (idle oi).dst undef = a := rfl
          rw [Oper.upon_value, hput] at hq
          exact hq
        · exfalso
          have := hq.1
          unfold Oper.asks at this
          rw [idle_trace] at this
          simp at this
      have hQ2 : oi.wp P a w (fun a'' w'' => Q .normal a'' w'') Q := by
        cases fuel with
        | zero => exact hk.2
        | succ fuel => exact hk.1 hfull2
      unfold wpOp
      simp only [hoo]
      rw [if_pos (wanted_none hog _)]
      refine .inl (Oper.wp_mono (fun a' w' hq' => ?_) hQ2)
      cases fuel with
      | zero => exact ⟨hfull, hq'⟩
      | succ fuel => exact ⟨fun _ => hq', by rw [hfull]; simp⟩
    · have hil : i < l.length := by
        have := (Array.getElem?_eq_some_iff.1 hoi).1
        simp at this
        omega
      have hoi2 : (l ++ [idle o]).toArray[i]? = some oi := by rw [idle_get_lt hil]; exact hoi
      have hgi : oi.guard = none := hg oi (by
        rw [List.getElem?_toArray] at hoi
        exact List.mem_of_getElem? hoi)
      unfold wpOp at hq
      simp only [hoi2] at hq
      rw [if_pos (wanted_none hgi _)] at hq
      unfold wpOp
      simp only [hoi]
      rw [if_pos (wanted_none hgi _)]
      rcases hq with hq | hq
      · exact .inl (wp_post (Oper.wp_mono (fun a' w' hk => ih (listed.setIfInBounds i true) a' w' (hcl.set hi) (by simpa using hs) (by rw [getD_set_ne true e]; exact hn) hk) hq))
      · exact .inr ⟨hq.1, letsOut_late hq.2⟩

/-- The region without its last; the last. -/
def lateOps (all : List Oper) : List Oper :=
  match all.getLast? with
  | some o => all.dropLast ++ [idle o]
  | none => []
def lateQ (P : Program) (Q : Exit → Act → World → Prop) (all : List Oper) : Exit → Act → World → Prop
  | .normal, a, w => lastWp P Q all a w
  | e, a, w => Q e a w
theorem lateQ_normal {all : List Oper} {a : Act} {w : World} (h : lastWp P Q all a w) : lateQ P Q all .normal a w := h
def lateAllH (all : List Oper) : Bool :=
  match all.getLast? with
  | some o => lateB all.dropLast o
  | none => false

/-- **THE LAW**: a region walked without its last (that waits for all), S held on the way. -/
theorem wp_region_late_held {S : World → Prop} {id : Nat} {a : Act} {w : World} {all : List Oper} (hm : P.follows .mixedOrders = true) (hB : lateAllH all = true) (hS : S w.drew)
    (h : S w.drew → wpAnyH P .any (lateOps all).toArray (lateQ P Q all) S (lateOps all).toArray.size (Array.replicate (lateOps all).toArray.size false) a w.drew) : (Code.region id all.toArray true).wp P Q a w := by
  unfold lateAllH at hB
  cases hl : all.getLast? with
  | none => rw [hl] at hB; cases hB
  | some o =>
    rw [hl] at hB
    have hne : all ≠ [] := fun e => by rw [e] at hl; cases hl
    have hall : all = all.dropLast ++ [o] := by
      have h1 := List.dropLast_concat_getLast hne
      rw [List.getLast?_eq_some_getLast hne] at hl
      injection hl with h2
      rw [h2] at h1
      exact h1.symm
    have hops : lateOps all = all.dropLast ++ [idle o] := by unfold lateOps; rw [hl]
    have hQ : lateQ P Q all = LateQ P o Q := by
      funext e a w
      cases e <;> first | rfl | (show lastWp P Q all a w = _; unfold lastWp; rw [hl]; rfl)
    have h' := h hS
    rw [hops, hQ] at h'
    generalize all.dropLast = l at *
    subst hall
    exact wp_region_any hm (late_held hB _ _ a _ (fun i oi _ h => by
      exfalso
      simp only [Array.getD_eq_getD_getElem?, Array.getElem?_replicate] at h
      split at h <;> simp at h) (by simp) (by simp) (by simpa using wpAny_of_held _ _ _ _ h'))
/-! ### Stages: what only reads is taken first, in the text's order -/

/-- Operations that yield a value, or stop. -/
def plainOp : Op → Bool
  | .move _ | .assign _ | .build _ _ | .load _ _ | .fieldAddr _ _ _ | .indexAddr _ _ _ | .nilCheck _ | .slice _ _ _ _ _ => true
  | _ => false

/-- Who ends with a value, if at all. -/
def ValEnd (P : Program) (s : Sem Next) : Prop := ∀ w n w', s.run P w = .ok n w' → ∃ v, n = .value v

theorem ValEnd.pure (v : Value) : ValEnd P (pure (.value v)) := fun w n w' h => by
  simp only [Sem.run_pure] at h
  injection h with h1 _
  exact ⟨v, h1.symm⟩

theorem ValEnd.bind {α : Type} {m : Sem α} {f : α → Sem Next} (hf : ∀ x, ValEnd P (f x)) : ValEnd P (m >>= f) := fun w n w' h => by
  simp only [Sem.run_bind] at h
  cases hs : m.run P w with
  | ok x w1 =>
    rw [hs] at h
    exact hf x w1 n w' h
  | halt x w1 =>
    rw [hs] at h
    simp only [Result.andThen] at h
    cases h

theorem ValEnd.panic : ValEnd P (runtimePanic .nilDeref) := fun w n w' h => by
  simp [runtimePanic, goPanic, go_sem] at h

theorem plain_value {o : Oper} (hp : plainOp o.op = true) {ρ : Operand → Value} : ValEnd P (execOp ρ o) := by
  unfold execOp
  cases ho : o.op <;> rw [ho] at hp <;> simp only [plainOp] at hp <;> try (cases hp; done)
  case move => exact ValEnd.pure _
  case assign => exact ValEnd.pure _
  case build => exact ValEnd.bind (fun _ => ValEnd.pure _)
  case slice => exact ValEnd.bind (fun _ => ValEnd.pure _)
  case load => exact ValEnd.bind (fun _ => ValEnd.pure _)
  case fieldAddr => exact ValEnd.bind (fun _ => ValEnd.pure _)
  case indexAddr => exact ValEnd.bind (fun _ => ValEnd.pure _)
  case nilCheck x =>
    dsimp only
    split
    · exact ValEnd.panic
    · exact ValEnd.panic
    · exact ValEnd.panic
    · split
      · exact ValEnd.panic
      · refine ValEnd.bind (fun _ => ValEnd.bind (fun _ => ?_))
        split
        · exact ValEnd.bind (fun _ => ValEnd.pure _)
        · exact ValEnd.pure _
      · exact ValEnd.pure _
    · exact ValEnd.pure _

/-- A segment of operations may be taken, one behind the other. -/
def segB (ops : Array Oper) : Array Bool → Nat → Nat → Bool
  | _, _, 0 => true
  | listed, i, p + 1 => Region.free .any ops listed i && (Region.ready .any ops listed).contains i && ((ops[i]?.map fun o => plainOp o.op && o.guard.isNone).getD false) && segB ops (listed.setIfInBounds i true) (i + 1) p

/-- .. and has been taken. -/
def setSeg : Array Bool → Nat → Nat → Array Bool
  | listed, _, 0 => listed
  | listed, i, p + 1 => setSeg (listed.setIfInBounds i true) (i + 1) p

/-- The worlds that meet S. -/
structure By (S : World → Prop) where
  world : World
  held : S world

theorem By.of {S : World → Prop} {w : World} (h : ∃ q : By S, w = q.world) : S w := by
  obtain ⟨q, rfl⟩ := h
  exact q.held

theorem By.mk' {S : World → Prop} {w : World} (h : S w) : ∃ q : By S, w = q.world := ⟨⟨w, h⟩, rfl⟩

theorem wpAnyH_seg {S : World → Prop} {all : List Oper} (hs : Region.noSelect all.toArray = true) (hQ : ∀ c (a : Act) d v w, Q (.panic c) (a.put d v) w → Q (.panic c) a w) (ops' : Array Oper) :
    ∀ (p i fuel : Nat) (listed : Array Bool) (a : Act) (w : World), segB all.toArray listed i p = true → S w →
      wpQuiet P ops' (fun w' => ∃ q : By S, w' = q.world) (fun a' => wpAnyH P .any all.toArray Q S fuel (setSeg listed i p) a' w) ((all.drop i).take p) a → wpAnyH P .any all.toArray Q S (fuel + p) listed a w
  | 0, i, fuel, listed, a, w, _, _, h => by simpa [wpQuiet, setSeg] using h
  | p + 1, i, fuel, listed, a, w, hB, hS, h => by
    simp only [segB, Bool.and_eq_true] at hB
    obtain ⟨⟨⟨h1, h2⟩, h3⟩, h4⟩ := hB
    cases ho : all.toArray[i]? with
    | none => rw [ho] at h3; cases h3
    | some o =>
      rw [ho] at h3
      simp only [Option.map_some, Option.getD_some, Bool.and_eq_true] at h3
      obtain ⟨h5, h6⟩ := h3
      have hg : o.guard = none := by simpa using h6
      have hi : i < all.length := by
        have := (Array.getElem?_eq_some_iff.1 ho).1
        simpa using this
      have hget : all[i] = o := by
        have := (Array.getElem?_eq_some_iff.1 ho).2
        simpa using this
      have hl : (all.drop i).take (p + 1) = o :: (all.drop (i + 1)).take p := by
        rw [List.drop_eq_getElem_cons hi, List.take_succ_cons, hget]
      rw [hl] at h
      have h' : (if Region.wanted o (yielded ops' a.tmps) then o.quiet P a (fun w' => ∃ q : By S, w' = q.world) (wpQuiet P ops' (fun w' => ∃ q : By S, w' = q.world) (fun a' => wpAnyH P .any all.toArray Q S fuel (setSeg listed i (p + 1)) a' w) ((all.drop (i + 1)).take p)) else _) := h
      rw [if_pos (wanted_none hg _)] at h'
      obtain ⟨v, hv, hn⟩ := h'
      have ih := wpAnyH_seg hs hQ ops' p (i + 1) fuel (listed.setIfInBounds i true) (a.put o.dst v) w h4 hS hn
      refine wpAnyH_take (fuel := fuel + p) ho hs h1 h2 (fun c a w h => hQ c a _ _ w h) (.inl ⟨wanted_none hg _, fun w1 hw1 => ?_⟩) hS ih
      have hq := hv w1 (By.mk' hw1)
      unfold Oper.quietAt at hq
      cases hr : (execOp a.eval o).run P w1 with
      | halt x w2 => rw [hr] at hq; exact hq.elim
      | ok n w2 =>
        obtain ⟨u, rfl⟩ := plain_value h5 w1 n w2 hr
        rw [hr] at hq
        have hq' : w2 = w1 ∧ u = v := hq
        rw [hq'.1, hq'.2]

/-- **THE LAW**: the first p only read: they are taken first, in the text's order; the last waits for all. -/
theorem wp_region_staged {S : World → Prop} {id : Nat} {a : Act} {w : World} {all : List Oper} (p fuel : Nat) (hm : P.follows .mixedOrders = true) (hB : (lateAllH all && Region.noSelect (lateOps all).toArray && segB (lateOps all).toArray (Array.replicate (lateOps all).toArray.size false) 0 p && decide ((lateOps all).toArray.size = fuel + p)) = true)
    (hQ : ∀ c (a : Act) d v w, Q (.panic c) (a.put d v) w → Q (.panic c) a w) (hS : S w.drew)
    (h : wpQuiet P all.toArray (fun w' => ∃ q : By S, w' = q.world) (fun a' => wpAnyH P .any (lateOps all).toArray (lateQ P Q all) S fuel (setSeg (Array.replicate (lateOps all).toArray.size false) 0 p) a' w.drew) ((lateOps all).take p) a) : (Code.region id all.toArray true).wp P Q a w := by
  simp only [Bool.and_eq_true, decide_eq_true_eq] at hB
  obtain ⟨⟨⟨h1, h2⟩, h3⟩, h4⟩ := hB
  refine wp_region_late_held hm h1 hS (fun hS => ?_)
  have := wpAnyH_seg (P := P) (Q := lateQ P Q all) h2 (fun c a d v w h => hQ c a d v w h) all.toArray p 0 fuel _ a w.drew h3 hS (by simpa using h)
  rw [← h4] at this
  exact this
end Go.Proofs.Qxb6613158a
