/-
  THE WALK of spansOf (26), the sort's contract given.
-/
import Derived.Test.Qxb6613158aSpans
import Derived.BigRegion
import Derived.ArgAppend
import Derived.Deep.LoopGhost
namespace Go.Proofs.Qxb6613158a
open Go.RowKit
set_option linter.unusedSimpArgs false
set_option linter.unusedVariables false

/-- A row of spans of the call's own; of its first n it is known which. -/
def RowS (w : World) (g cap n : Nat) (f l : Nat → Int) : Prop := ∃ h : Nat → Value, w.rowIs g 85 (cap * 2) h ∧ n ≤ cap ∧ ∀ k, k < n → h (k * 2) = .int .i32 (f k) ∧ h (k * 2 + 1) = .int .i32 (l k)

/-- What is asked of the sort. -/
def SortOk : Prop := ∀ (g cap n : Nat) (f l : Nat → Int) (w : World), 0 < n → n ≤ 1073741824 → RowS w g cap n f l →
  Calls Try.prog 33 #[.slice (some ⟨g, 0, none⟩) n cap, .func (.func 34) #[] #[]] w fun e w' => e = .returned (.tuple #[]) ∧ (∃ f' l', RowS w' g cap n f' l' ∧ ∀ k, k < n → ∃ j, j < n ∧ f' k = f j ∧ l' k = l j) ∧ Kept (fun b => b = g) w w'

theorem RowS.first {w : World} {g cap n : Nat} {f l : Nat → Int} (h : RowS w g cap n f l) {k : Nat} (hk : k < n) : w.cell? ⟨g, k * 2, none⟩ = some (.int .i32 (f k)) := by
  obtain ⟨h0, hr, hn, hh⟩ := h
  rw [hr.cell (by omega), (hh k hk).1]

theorem RowS.last {w : World} {g cap n : Nat} {f l : Nat → Int} (h : RowS w g cap n f l) {k : Nat} (hk : k < n) : w.cell? ⟨g, k * 2 + 1, none⟩ = some (.int .i32 (l k)) := by
  obtain ⟨h0, hr, hn, hh⟩ := h
  rw [hr.cell (by omega), (hh k hk).2]

theorem RowS.lt {w : World} {g cap n : Nat} {f l : Nat → Int} (h : RowS w g cap n f l) : g < w.heap.size := by
  obtain ⟨h0, hr, _⟩ := h
  exact hr.lt

theorem RowS.frozen {w : World} {g cap n : Nat} {f l : Nat → Int} (h : RowS w g cap n f l) (k : Nat) : w.frozen? ⟨g, k, none⟩ = false := by
  obtain ⟨h0, hr, _⟩ := h
  exact hr.frozen k

theorem RowS.kept {S : Nat → Prop} {w w' : World} {g cap n : Nat} {f l : Nat → Int} (h : RowS w g cap n f l) (hk : Kept S w w') (hg : ¬ S g) : RowS w' g cap n f l := by
  obtain ⟨h0, hr, hn, hh⟩ := h
  exact ⟨h0, hk.row hr hg, hn, hh⟩

theorem RowS.in {w : World} {g cap n : Nat} {f l : Nat → Int} (h : RowS w g cap n f l) : SpansIn w g n f l := fun k hk => ⟨h.first hk, h.last hk⟩

/-- A change of the 'last' of one span. -/
theorem RowS.setLast {w : World} {g cap n : Nat} {f l : Nat → Int} (h : RowS w g cap n f l) (k : Nat) (x : Int) : RowS (w.setCell ⟨g, k * 2 + 1, none⟩ (.int .i32 x)) g cap n f (fun j => if j = k then x else l j) := by
  obtain ⟨h0, hr, hn, hh⟩ := h
  refine ⟨_, hr.set (k * 2 + 1) _, hn, fun j hj => ⟨?_, ?_⟩⟩
  · rw [if_neg (by omega)]; exact (hh j hj).1
  · by_cases e : j = k
    · subst e; simp
    · rw [if_neg (by omega)]
      show _ = Value.int .i32 (if j = k then x else l j)
      rw [if_neg e]; exact (hh j hj).2

/-- What spansOf keeps: s holds m spans, valid, their firsts rising; they stand below the place k that is read next. -/
structure SpInv (n N m k : Nat) (f l : Nat → Int) : Prop where
  le : m ≤ k
  ok : ∀ j, j < n → 0 ≤ f j ∧ f j ≤ l j ∧ l j < N
  up : ∀ j, j + 1 < m → f j < f (j + 1)

theorem SpInv.len {n N m k : Nat} {f l : Nat → Int} (h : SpInv n N m k f l) (hk : k ≤ n) : m ≤ N := by
  have key : ∀ j, j < m → (j : Int) ≤ f j := by
    intro j
    induction j with
    | zero => intro hj; exact (h.ok 0 (by have := h.le; omega)).1
    | succ j ih =>
      intro hj
      have h1 := ih (by omega)
      have h2 := h.up j hj
      push_cast
      omega
  rcases Nat.eq_zero_or_pos m with h0 | h0
  · omega
  · have h1 := key (m - 1) (by omega)
    have h2 := h.ok (m - 1) (by have := h.le; omega)
    omega

/-- One span more, behind the first m. -/
theorem RowS.setSpan {w : World} {g cap n : Nat} {f l : Nat → Int} (h : RowS w g cap n f l) (m : Nat) (a b : Int) : RowS (w.setCells g (m * 2) [.int .i32 a, .int .i32 b]) g cap n (fun j => if j = m then a else f j) (fun j => if j = m then b else l j) := by
  obtain ⟨h0, hr, hn, hh⟩ := h
  refine ⟨_, (hr.set (m * 2) (.int .i32 a)).set (m * 2 + 1) (.int .i32 b), hn, fun j hj => ⟨?_, ?_⟩⟩
  · show (if j * 2 = m * 2 + 1 then Value.int .i32 b else if j * 2 = m * 2 then Value.int .i32 a else h0 (j * 2)) = Value.int .i32 (if j = m then a else f j)
    rw [if_neg (by omega)]
    by_cases e : j = m
    · rw [if_pos (by omega), if_pos e]
    · rw [if_neg (by omega), if_neg e]; exact (hh j hj).1
  · show (if j * 2 + 1 = m * 2 + 1 then Value.int .i32 b else if j * 2 + 1 = m * 2 then Value.int .i32 a else h0 (j * 2 + 1)) = Value.int .i32 (if j = m then b else l j)
    by_cases e : j = m
    · rw [if_pos (by omega), if_pos e]
    · rw [if_neg (by omega), if_neg (by omega), if_neg e]; exact (hh j hj).2

theorem SpInv.add {n N m k : Nat} {f l : Nat → Int} (h : SpInv n N m k f l) (hk : k < n) (hu : 0 < m → f (m - 1) < f k) : SpInv n N (m + 1) (k + 1) (fun j => if j = m then f k else f j) (fun j => if j = m then l k else l j) := by
  have hm := h.le
  refine ⟨by omega, fun j hj => ?_, fun j hj => ?_⟩
  · by_cases e : j = m
    · simp only [if_pos e]; exact h.ok k hk
    · simp only [if_neg e]; exact h.ok j hj
  · have e1 : j ≠ m := by omega
    simp only [if_neg e1]
    by_cases e : j + 1 = m
    · simp only [if_pos e]
      have := hu (by omega)
      rwa [show m - 1 = j by omega] at this
    · simp only [if_neg e]; exact h.up j (by omega)

theorem SpInv.join {n N q k : Nat} {f l : Nat → Int} (h : SpInv n N (q + 1) k f l) (hk : k < n) : SpInv n N (q + 1) (k + 1) f (fun j => if j = q then max (l q) (l k) else l j) := by
  have hm := h.le
  refine ⟨by omega, fun j hj => ?_, h.up⟩
  have h1 := h.ok j hj
  by_cases e : j = q
  · simp only [if_pos e]
    have h2 := h.ok q (by omega)
    have h3 := h.ok k hk
    subst e
    refine ⟨h1.1, ?_, ?_⟩ <;> omega
  · simp only [if_neg e]; exact h1

theorem info85 : (Try.prog.info? 85).map (fun i => (i.zero, i.size, i.bytes)) = some (some (.agg #[.int .i32 0, .int .i32 0]), 2, 8) := by kernel_rfl

theorem RowS.alloc {w : World} {g cap n : Nat} {f l : Nat → Int} (h : RowS w g cap n f l) (o : Obj) : RowS (w.alloc o) g cap n f l := by
  obtain ⟨h0, hr, hn, hh⟩ := h
  exact ⟨h0, hr.alloc o, hn, hh⟩

/-- The append in place. -/
theorem append_here {W : World} {g cap n : Nat} {f l : Nat → Int} (hR : RowS W g cap n f l) (m : Nat) (hm : m < n) (a b : Int) (ty : TypeId) :
    (Builtin.append_ #[81, 81] ty #[.slice (some ⟨g, 0, none⟩) m cap, .slice (some ⟨W.heap.size, 0, none⟩) 1 1]).run Try.prog (W.alloc (.cells #[.int .i32 a, .int .i32 b] 85)) =
      .ok (.slice (some ⟨g, 0, none⟩) (m + 1) cap) ((W.alloc (.cells #[.int .i32 a, .int .i32 b] 85)).setCells g (m * 2) [.int .i32 a, .int .i32 b]) := by
  obtain ⟨i8, hi8, hz0, hz1, hz2⟩ := info_parts info85
  have hR2 := hR.alloc (.cells #[.int .i32 a, .int .i32 b] 85)
  have hcap : n ≤ cap := by obtain ⟨_, _, h, _⟩ := hR; exact h
  have h := run_append_room_cells (P := Try.prog) (W.alloc (.cells #[.int .i32 a, .int .i32 b] 85)) 81 ty 85 i8 Try.underlying81 hi8 g 0 m cap ⟨W.heap.size, 0, none⟩ 1 1 [.int .i32 a, .int .i32 b] (by rw [hz1]; rfl)
    (fun j u hj => by
      match j, hj with
      | 0, hj => simp at hj; subst hj; rw [addr_add]; simp
      | 1, hj => simp at hj; subst hj; rw [addr_add]; simp)
    (fun u hu => by simp at hu; rcases hu with rfl | rfl <;> rfl) (by omega)
    (fun j hj => by
      rw [hz1]
      have hj' : j < 2 := by simpa using hj
      rcases (show j = 0 ∨ j = 1 by omega) with rfl | rfl
      · rw [show 0 + m * 2 + 0 = m * 2 by omega, hR2.first hm]; rfl
      · rw [show 0 + m * 2 + 1 = m * 2 + 1 by omega, hR2.last hm]; rfl)
    (fun j hj => hR2.frozen _)
  rw [hz1, Nat.zero_add] at h
  exact h

/-- An append of which the run is known. -/
theorem wpList_append_run {P : Program} {w w' : World} {ops : Array Oper} {rest : List Oper} {o : Oper} {a : Act} {Q : Exit → Act → World → Prop} (hgd : o.guard = none) (s x : Operand) (t tx : TypeId)
    (ho : o.op = .call { callee := .builtin .append, args := #[s, x], argTypes := #[t, tx] }) (v xv r : Value) (hs : a.eval s = v) (hx : a.eval x = xv)
    (hr : (Builtin.append_ #[t, tx] o.type #[v, xv]).run P w = .ok r w') (h : wpList P ops Q rest (a.put o.dst r) w') : wpList P ops Q (o :: rest) a w :=
  wpList_plain hgd fun _ hK => by
    unfold Oper.wp execOp
    simp only [ho, resolve, invoke, builtin, Sem.run_bind, Sem.run_pure, Result.andThen_ok, List.map_toArray, List.map_cons, List.map_nil, hs, hx, hr]
    exact hK _ _ h

set_option maxHeartbeats 4000000 in
set_option maxRecDepth 100000 in
theorem spansOf_any (hsort : SortOk) (g cap n N : Nat) (f l : Nat → Int) (w : World) (hn : 0 < n) (hn2 : n ≤ 1073741824) (hN : N ≤ 4096) (hR : RowS w g cap n f l) (hv : ∀ j, j < n → 0 ≤ f j ∧ f j ≤ l j ∧ l j < N) :
    Calls Try.prog 26 #[.slice (some ⟨g, 0, none⟩) n cap] w fun e w' => (∃ m f' l', e = .returned (.slice (some ⟨g, 0, none⟩) m cap) ∧ RowS w' g cap m f' l' ∧ m ≤ N ∧ ∀ j, j < m → 0 ≤ f' j ∧ f' j ≤ l' j ∧ l' j < N) ∧ Kept (fun b => b = g) w w' := by
  obtain ⟨i8, hi8, hz0, hz1, hz2⟩ := info_parts info85
  have h33 := hsort g cap n f l w hn hn2 hR
  have hnz : ((n : Int) == 0) = false := by simp; omega
  have hnc : n ≤ cap := by obtain ⟨_, _, h, _⟩ := hR; exact h
  have HV : Hid _ := hv
  clear hv hR hsort
  go_enter Try.func26, Try.ntmps26
  go_wp2_with (go_at_call 33; refine h33.mono ?_; rintro _ w1 ⟨rfl, ⟨f1, l1, hR1, hp⟩, hk1⟩)
  have HR1 : Hid (RowS w1 g cap n f1 l1) := hR1
  have HI1 : Hid (SpInv n N 0 0 f1 l1) := ⟨Nat.le_refl _, fun j hj => by
    obtain ⟨i, hi, e1, e2⟩ := hp j hj
    rw [e1, e2]; exact HV.out i hi, fun j hj => by omega⟩
  clear hR1 hp h33
  go_wp2
  go_loopg [3, 16] n (fun gk x z wr => ∃ (m k : Nat) (f l : Nat → Int), x = .slice (some ⟨g, 0, none⟩) m cap ∧ z = .int .i64 k ∧ m ≤ k ∧ k ≤ n ∧ n - k ≤ gk ∧ Hid (RowS wr g cap n f l) ∧ Hid (SpInv n N m k f l) ∧ Kept (fun b => b = g) w wr)
  case atStart => exact ⟨0, 0, f1, l1, rfl, rfl, Nat.le_refl _, Nat.zero_le _, Nat.le_refl _, HR1, HI1, hk1⟩
  case round =>
    clear HR1 HI1 hk1
    obtain ⟨m, k, f, l, rfl, rfl, hmk, hkn, hgk, HR, HI, hkw⟩ := hrel
    by_cases hlt : k < n
    · have c1 := RowS.first HR.out hlt
      have c2 := RowS.last HR.out hlt
      have p1 : (0 : Int) ≤ (k : Int) := by omega
      have p2 : (k : Int) < (n : Int) := by omega
      cases m with
      | zero =>
        go_wp2
        go_quiet (fail)
        have kB : Kept (fun b => b = g) w ((wr.alloc (.cells #[.int .i32 (f k), .int .i32 (l k)] 85)).drewN nq) := (hkw.alloc _).trans (Kept.drewN noS _ _) (fun x hx => hx.elim)
        have RB : RowS ((wr.alloc (.cells #[.int .i32 (f k), .int .i32 (l k)] 85)).drewN nq) g cap n f l := (RowS.alloc HR.out _).kept (Kept.drewN noS _ _) (fun h => h)
        have b1 : ((wr.alloc (.cells #[.int .i32 (f k), .int .i32 (l k)] 85)).drewN nq).cell? ⟨wr.heap.size, 0, none⟩ = some (.int .i32 (f k)) := by simp
        have b2 : ((wr.alloc (.cells #[.int .i32 (f k), .int .i32 (l k)] 85)).drewN nq).cell? ⟨wr.heap.size, 1, none⟩ = some (.int .i32 (l k)) := by simp
        have KB : Hid _ := kB
        have RB' : Hid _ := RB
        generalize (wr.alloc (.cells #[.int .i32 (f k), .int .i32 (l k)] 85)).drewN nq = W3 at *
        have hrun := append_here RB'.out 0 (by omega) (f k) (l k)
        have S5 : Hid (RowS ((W3.alloc (.cells #[.int .i32 (f k), .int .i32 (l k)] 85)).setCells g (0 * 2) [.int .i32 (f k), .int .i32 (l k)]) g cap n (fun j => if j = 0 then f k else f j) (fun j => if j = 0 then l k else l j)) := (show RowS _ _ _ _ _ _ from (RowS.alloc RB'.out _).setSpan 0 _ _)
        have K5 : Hid (Kept (fun b => b = g) w ((W3.alloc (.cells #[.int .i32 (f k), .int .i32 (l k)] 85)).setCells g (0 * 2) [.int .i32 (f k), .int .i32 (l k)])) := (show Kept _ _ _ from ((KB.out.alloc _).setCell (.inl rfl) _).setCell (.inl rfl) _)
        have HRUN : Hid _ := hrun
        clear kB RB KB RB' hkw c1 c2 hrun
        go_wp2_with (at_builtin; refine wpList_append_run rfl _ _ 81 81 rfl _ _ _ rfl rfl (HRUN.out _) ?_)
        generalize (W3.alloc (.cells #[.int .i32 (f k), .int .i32 (l k)] 85)).setCells g (0 * 2) [.int .i32 (f k), .int .i32 (l k)] = W5 at *
        go_roundg (n - (k + 1))
        case measure => omega
        case rel => exact ⟨1, k + 1, _, _, rfl, by go_num, by omega, by omega, Nat.le_refl _, S5, HI.out.add hlt (fun h => absurd h (by omega)), K5.out⟩
      | succ q =>
        have e1 := RowS.first HR.out (show q < n by omega)
        have e2 := RowS.last HR.out (show q < n by omega)
        have o1 := HI.out.ok q (by omega)
        have o2 := HI.out.ok k hlt
        have e3 := RowS.last (RowS.alloc HR.out (.cells #[.int .i32 (f k), .int .i32 (l k)] 85)) (show q < n by omega)
        have r1 : IntKind.i32.wrap (l q + 1) = l q + 1 := by rw [IntKind.wrap_i32]; omega
        have z1 : (0 : Int) ≤ (q : Int) := by omega
        have z2 : (q : Int) < (q : Int) + 1 := by omega
        have z3 : (0 : Int) < (q : Int) + 1 := by omega
        have z4 : decide ((q : Int) + 1 > 0) = true := decide_eq_true (by omega)
        by_cases hle : f k ≤ l q + 1
        · have z5 : decide (f k ≤ l q + 1) = true := decide_eq_true hle
          go_wp2
          go_quiet (fail)
          have kB : Kept (fun b => b = g) w ((wr.alloc (.cells #[.int .i32 (f k), .int .i32 (l k)] 85)).drewN nq) := (hkw.alloc _).trans (Kept.drewN noS _ _) (fun x hx => hx.elim)
          have RB : RowS ((wr.alloc (.cells #[.int .i32 (f k), .int .i32 (l k)] 85)).drewN nq) g cap n f l := (RowS.alloc HR.out _).kept (Kept.drewN noS _ _) (fun h => h)
          have b2 : ((wr.alloc (.cells #[.int .i32 (f k), .int .i32 (l k)] 85)).drewN nq).cell? ⟨wr.heap.size, 1, none⟩ = some (.int .i32 (l k)) := by simp
          have KB : Hid _ := kB
          have RB' : Hid (RowS ((wr.alloc (.cells #[.int .i32 (f k), .int .i32 (l k)] 85)).drewN nq) g cap n f l) := RB
          clear kB RB hkw c1 c2 e1 e2 e3
          generalize (wr.alloc (.cells #[.int .i32 (f k), .int .i32 (l k)] 85)).drewN nq = W3 at *
          have e5 := RowS.last RB'.out (show q < n by omega)
          have f5 := RowS.frozen RB'.out (q * 2 + 1)
          have hgl := RowS.lt RB'.out
          have r2 : IntKind.i64.wrap ((q : Int) + 1) = (q : Int) + 1 := by rw [IntKind.wrap_i64]; omega
          have r3 : IntKind.i64.wrap ((q : Int)) = (q : Int) := by rw [IntKind.wrap_i64]; omega
          have S5 : Hid (RowS (W3.setCell ⟨g, q * 2 + 1, none⟩ (.int .i32 (max (l q) (l k)))).drew g cap n f (fun j => if j = q then max (l q) (l k) else l j)) := (show RowS _ _ _ _ _ _ from (RowS.setLast RB'.out q _).kept (Kept.drewN noS _ 1) (fun h => h))
          have K5 : Hid (Kept (fun b => b = g) w (W3.setCell ⟨g, q * 2 + 1, none⟩ (.int .i32 (max (l q) (l k)))).drew) := (show Kept _ _ _ from (KB.out.setCell (.inl rfl) _).trans (Kept.drewN noS _ 1) (fun x hx => hx.elim))
          go_wp2
          go_region
          clear RB' KB e5 f5 b2
          generalize (W3.setCell ⟨g, q * 2 + 1, none⟩ (.int .i32 (max (l q) (l k)))).drew = W5 at *
          go_wp2
          go_roundg (n - (k + 1))
          case measure => omega
          case rel => exact ⟨q + 1, k + 1, _, _, rfl, by go_num, by omega, by omega, Nat.le_refl _, S5, HI.out.join hlt, K5.out⟩
        · have z5 : decide (f k ≤ l q + 1) = false := decide_eq_false hle
          go_wp2
          go_quiet (fail)
          have kB : Kept (fun b => b = g) w ((wr.alloc (.cells #[.int .i32 (f k), .int .i32 (l k)] 85)).drewN nq) := (hkw.alloc _).trans (Kept.drewN noS _ _) (fun x hx => hx.elim)
          have RB : RowS ((wr.alloc (.cells #[.int .i32 (f k), .int .i32 (l k)] 85)).drewN nq) g cap n f l := (RowS.alloc HR.out _).kept (Kept.drewN noS _ _) (fun h => h)
          have b1 : ((wr.alloc (.cells #[.int .i32 (f k), .int .i32 (l k)] 85)).drewN nq).cell? ⟨wr.heap.size, 0, none⟩ = some (.int .i32 (f k)) := by simp
          have b2 : ((wr.alloc (.cells #[.int .i32 (f k), .int .i32 (l k)] 85)).drewN nq).cell? ⟨wr.heap.size, 1, none⟩ = some (.int .i32 (l k)) := by simp
          have KB : Hid _ := kB
          have RB' : Hid _ := RB
          generalize (wr.alloc (.cells #[.int .i32 (f k), .int .i32 (l k)] 85)).drewN nq = W3 at *
          have hrun := append_here RB'.out (q + 1) (by omega) (f k) (l k)
          have S5 : Hid (RowS ((W3.alloc (.cells #[.int .i32 (f k), .int .i32 (l k)] 85)).setCells g ((q + 1) * 2) [.int .i32 (f k), .int .i32 (l k)]) g cap n (fun j => if j = q + 1 then f k else f j) (fun j => if j = q + 1 then l k else l j)) := (show RowS _ _ _ _ _ _ from (RowS.alloc RB'.out _).setSpan (q + 1) _ _)
          have K5 : Hid (Kept (fun b => b = g) w ((W3.alloc (.cells #[.int .i32 (f k), .int .i32 (l k)] 85)).setCells g ((q + 1) * 2) [.int .i32 (f k), .int .i32 (l k)])) := (show Kept _ _ _ from ((KB.out.alloc _).setCell (.inl rfl) _).setCell (.inl rfl) _)
          have HRUN : Hid _ := hrun
          clear kB RB KB RB' hkw c1 c2 hrun
          go_wp2_with (at_builtin; refine wpList_append_run rfl _ _ 81 81 rfl _ _ _ rfl rfl (HRUN.out _) ?_)
          generalize (W3.alloc (.cells #[.int .i32 (f k), .int .i32 (l k)] 85)).setCells g ((q + 1) * 2) [.int .i32 (f k), .int .i32 (l k)] = W5 at *
          go_roundg (n - (k + 1))
          case measure => omega
          case rel => exact ⟨q + 1 + 1, k + 1, _, _, by first | rfl | go_num, by go_num, by omega, by omega, Nat.le_refl _, S5, HI.out.add hlt (fun _ => by show f q < f k; omega), K5.out⟩
    · have hrow : RowS wr g cap m f l := by
        obtain ⟨h0, hr, hc, hh⟩ := HR.out
        exact ⟨h0, hr, by omega, fun j hj => hh j (by omega)⟩
      have HROW : Hid _ := hrow
      clear hrow
      go_wp2
      go_ret
      exact ⟨⟨m, f, l, rfl, HROW.out, HI.out.len hkn, fun j hj => HI.out.ok j (by omega)⟩, hkw⟩

set_option maxHeartbeats 1000000 in
set_option maxRecDepth 100000 in
theorem spansOf_none (w : World) : Calls Try.prog 26 #[.slice none 0 0] w fun e w' => e = .returned (.slice none 0 0) ∧ w' = w := by
  go_enter Try.func26, Try.ntmps26
  go_wp2
  go_ret
  exact ⟨rfl, rfl⟩
end Go.Proofs.Qxb6613158a
