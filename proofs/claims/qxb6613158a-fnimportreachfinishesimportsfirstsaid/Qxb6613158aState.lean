/-
  HOW THE MEMORY OF newImportReach TURNS at each store; how much work is left.
-/
import Derived.Test.Qxb6613158aRes
import Derived.Test.Qxb6613158aReach
namespace Go.Proofs.Qxb6613158a
open Go.RowKit Tj
set_option linter.unusedSimpArgs false
set_option linter.unusedVariables false

theorem ownsRow_cut {w : World} {base size g cap n k : Nat} {e : TypeId} {xs ys : List Value} (hk : k ≤ n) (hy : ys = xs.take (k * size)) (h : w.ownsRow base e size (.slice (some ⟨g, 0, none⟩) n cap) n xs) : w.ownsRow base e size (.slice (some ⟨g, 0, none⟩) k cap) k ys := by
  obtain ⟨h1, h2⟩ := h
  have hle : k * size ≤ n * size := Nat.mul_le_mul_right _ hk
  rcases h2 with ⟨h0, _⟩ | ⟨g', cap', cur, hv, hg, hh, hn, hcap, hsz, htake⟩
  · cases h0
  · cases hv
    refine ⟨by rw [hy, List.length_take, h1]; omega, .inr ⟨g, cap, cur, rfl, hg, hh, by omega, hcap, hsz, ?_⟩⟩
    rw [hy, ← htake, List.take_take, Nat.min_eq_left hle]

variable {w w' W : World} {n H : Nat} {sp fp mp : Nat → Nat} {N : Nat → ByteArray} {deg : Nat → Nat} {ip A : Nat → Nat → Nat} {s : St} {O : Nat → Bool} {pval sval : Value} {nv : Nat → Value} {I : Nat → Prop}

def stepCells (sp : Nat → Nat) (s : St) (nv : Nat → Value) (d : Nat) : List Value := (List.range d).flatMap fun i => [.pointer (some ⟨sp (s.pa i), 0, none⟩), nv i]

theorem flat_len (f g : Nat → Value) : ∀ d, ((List.range d).flatMap fun i => [f i, g i]).length = d * 2
  | 0 => rfl
  | d + 1 => by rw [List.range_succ, List.flatMap_append, List.length_append, flat_len f g d]; simp; omega

theorem flat_get (f g : Nat → Value) : ∀ d i, i < d → ((List.range d).flatMap fun i => [f i, g i])[i * 2]? = some (f i) ∧ ((List.range d).flatMap fun i => [f i, g i])[i * 2 + 1]? = some (g i)
  | 0, i, h => absurd h (Nat.not_lt_zero _)
  | d + 1, i, h => by
    rw [List.range_succ, List.flatMap_append]
    by_cases e : i = d
    · subst e
      rw [List.getElem?_append_right (by rw [flat_len]; omega), List.getElem?_append_right (by rw [flat_len]; omega), flat_len]
      rw [show i * 2 - i * 2 = 0 by omega, show i * 2 + 1 - i * 2 = 1 by omega]
      exact ⟨rfl, rfl⟩
    · rw [List.getElem?_append_left (by rw [flat_len]; omega), List.getElem?_append_left (by rw [flat_len]; omega)]
      exact flat_get f g d i (by omega)

theorem flat_congr (f g f' g' : Nat → Value) (d : Nat) (h : ∀ i, i < d → f i = f' i ∧ g i = g' i) : ((List.range d).flatMap fun i => [f i, g i]) = (List.range d).flatMap fun i => [f' i, g' i] := by
  rw [List.flatMap_def, List.flatMap_def]
  congr 1
  apply List.map_congr_left
  intro i hi
  obtain ⟨a, b⟩ := h i (by simpa using hi)
  rw [a, b]

theorem flat_take (f g : Nat → Value) (k : Nat) : ∀ d, k ≤ d → ((List.range d).flatMap fun i => [f i, g i]).take (k * 2) = (List.range k).flatMap fun i => [f i, g i]
  | 0, h => by obtain rfl : k = 0 := by omega
               rfl
  | d + 1, h => by
    by_cases e : k = d + 1
    · rw [e, List.take_of_length_le (by rw [flat_len]; exact Nat.le_refl _)]
    · rw [List.range_succ, List.flatMap_append, List.take_append_of_le_length (by rw [flat_len]; omega)]
      exact flat_take f g k d (by omega)

theorem Mem.plt (h : Mem H n sp w s O pval sval nv I) {q : Nat} (hq : pval.ownBlock = some q) : H + 13 ≤ q ∧ q < w.heap.size := h.po.lt q hq
theorem Mem.slt (h : Mem H n sp w s O pval sval nv I) {q : Nat} (hq : sval.ownBlock = some q) : H + 13 ≤ q ∧ q < w.heap.size := h.so.lt q hq

/-- What was looked at goes from the step. -/
theorem Mem.setNext (h : Mem H n sp w s O pval sval nv I) {sb cap e : Nat} (he : s.d = e + 1) (hs : sval = .slice (some ⟨sb, 0, none⟩) s.d cap) {v' : Value} {rest : List Nat} (hv : NextAt w I sp v' rest) :
    Mem H n sp (w.setCell ⟨sb, e * 2 + 1, none⟩ v') { s with nx := upd s.nx e rest } O pval sval (upd nv e v') I ∧ Kept (fun b => b = sb) w (w.setCell ⟨sb, e * 2 + 1, none⟩ v') := by
  have kE : Kept (fun b => b = sb) w (w.setCell ⟨sb, e * 2 + 1, none⟩ v') := (Kept.refl (fun b => b = sb) w).setCell (.inl rfl) _
  have hso : sval.ownBlock = some sb := by rw [hs]; rfl
  have hl := h.slt hso
  have hI : ∀ q, I q → ¬ q = sb := fun q hq e => (h.imm q hq).2.2.2 (by rw [e]; exact hso)
  have hsz : (w.setCell ⟨sb, e * 2 + 1, none⟩ v').heap.size = w.heap.size := by simp [World.setCell]
  refine ⟨⟨kE.cell h.fv (by show ¬ (H + 5 = sb); omega), kE.row h.fr (by omega), kE.cell h.lv (by show ¬ (H + 7 = sb); omega), kE.row h.lr (by omega), kE.cell h.ov (by show ¬ (H + 9 = sb); omega), kE.row h.or (by omega), kE.row h.cr (by omega), kE.row h.pr (by omega), kE.owns h.po (fun q hq hqs => h.sep q hq (by rw [hqs]; exact hso)), kE.row h.sr (by omega), ?_, ?_, h.sep, fun q hq => by rw [hsz]; exact h.imm q hq⟩, kE⟩
  · have h1 := h.so
    rw [hs] at h1 ⊢
    have h2 := (h1.stored (e * 2 + 1) v').1
    have e2 : ((List.range s.d).flatMap fun i => [Value.pointer (some ⟨sp (s.pa i), 0, none⟩), nv i]).set (e * 2 + 1) v' = (List.range s.d).flatMap fun i => [Value.pointer (some ⟨sp (s.pa i), 0, none⟩), upd nv e v' i] := by
      rw [he, List.range_succ, List.flatMap_append, List.flatMap_append, List.set_append_right _ _ (by rw [flat_len]; omega), flat_len, show e * 2 + 1 - e * 2 = 1 by omega]
      congr 1
      · apply flat_congr
        intro i hi
        exact ⟨rfl, (upd_other _ _ (by omega)).symm⟩
      · show [_, v'] = [_, upd nv e v' e]
        rw [upd_same]
    rw [e2] at h2
    exact h2
  · intro i hi
    show NextAt _ I sp (upd nv e v' i) (upd s.nx e rest i)
    have kb : ∀ q, I q → (w.setCell ⟨sb, e * 2 + 1, none⟩ v').heap[q]? = w.heap[q]? := fun q hq => kE.block q (h.imm q hq).2.1 (hI q hq)
    by_cases e3 : i = e
    · rw [e3, upd_same, upd_same]
      exact hv.kept (fun _ h => h) kb
    · rw [upd_other _ _ e3, upd_other _ _ e3]
      exact (h.nx i hi).kept (fun _ h => h) kb

/-- A low is set. -/
theorem Mem.setLow (h : Mem H n sp w s O pval sval nv I) (t l : Nat) :
    Mem H n sp (w.setCell ⟨H + 6, t, none⟩ (.int .i32 (l : Nat))).drew { s with low := upd s.low t l } O pval sval nv I ∧ Kept (fun b => b = H + 6) w (w.setCell ⟨H + 6, t, none⟩ (.int .i32 (l : Nat))).drew := by
  have kE : Kept (fun b => b = H + 6) w (w.setCell ⟨H + 6, t, none⟩ (.int .i32 (l : Nat))).drew := ((Kept.refl (fun b => b = H + 6) w).setCell (.inl rfl) _).trans (Kept.drewN noS _ 1) (fun x hx => hx.elim)
  have hI : ∀ q, I q → ¬ q = H + 6 := fun q hq e => by have := h.imm q hq; omega
  have hsz : (w.setCell ⟨H + 6, t, none⟩ (.int .i32 (l : Nat))).drew.heap.size = w.heap.size := by simp [World.setCell]
  refine ⟨⟨kE.cell h.fv (by simp), kE.row h.fr (by omega), kE.cell h.lv (by simp), (rowIs_updN h.lr).drew, kE.cell h.ov (by simp), kE.row h.or (by omega), kE.row h.cr (by omega), kE.row h.pr (by omega), kE.owns h.po (fun q hq hqs => by have := h.plt hq; omega), kE.row h.sr (by omega), kE.owns h.so (fun q hq hqs => by have := h.slt hq; omega), ?_, h.sep, fun q hq => by rw [hsz]; exact h.imm q hq⟩, kE⟩
  intro i hi
  exact (h.nx i hi).kept (fun _ h => h) (fun q hq => kE.block q (h.imm q hq).2.1 (hI q hq))

/-- The last step goes. -/
theorem Mem.popStep (h : Mem H n sp w s O pval sval nv I) {sb cap e : Nat} (he : s.d = e + 1) (hs : sval = .slice (some ⟨sb, 0, none⟩) s.d cap) :
    Mem H n sp (w.setCell ⟨H + 11, 0, none⟩ (.slice (some ⟨sb, 0, none⟩) e cap)) { s with d := e } O pval (.slice (some ⟨sb, 0, none⟩) e cap) nv I ∧ Kept (fun b => b = H + 11) w (w.setCell ⟨H + 11, 0, none⟩ (.slice (some ⟨sb, 0, none⟩) e cap)) := by
  have kE : Kept (fun b => b = H + 11) w (w.setCell ⟨H + 11, 0, none⟩ (.slice (some ⟨sb, 0, none⟩) e cap)) := (Kept.refl (fun b => b = H + 11) w).setCell (.inl rfl) _
  have hso : sval.ownBlock = some sb := by rw [hs]; rfl
  have hl := h.slt hso
  have hI : ∀ q, I q → ¬ q = H + 11 := fun q hq e => by have := h.imm q hq; omega
  have hsz : (w.setCell ⟨H + 11, 0, none⟩ (.slice (some ⟨sb, 0, none⟩) e cap)).heap.size = w.heap.size := by simp [World.setCell]
  refine ⟨⟨kE.cell h.fv (by simp), kE.row h.fr (by omega), kE.cell h.lv (by simp), kE.row h.lr (by omega), kE.cell h.ov (by simp), kE.row h.or (by omega), kE.row h.cr (by omega), kE.row h.pr (by omega), kE.owns h.po (fun q hq hqs => by have := h.plt hq; omega), ?_, ?_, ?_, fun q hq hqs => h.sep q hq (by rw [hso]; exact hqs), fun q hq => ?_⟩, kE⟩
  · exact (h.sr.set 0 _).congr (fun j hj => by simp; omega)
  · have h1 := h.so
    rw [hs] at h1
    have h2 := ownsRow_cut (k := e) (by omega) rfl h1
    rw [flat_take _ _ e s.d (by omega)] at h2
    exact kE.owns h2 (fun q hq hqs => by have : sb = q := by simpa [Value.ownBlock] using hq
                                         omega)
  · intro i hi
    have hi' : i < e := hi
    exact (h.nx i (by omega)).kept (fun _ h => h) (fun q hq => kE.block q (h.imm q hq).2.1 (hI q hq))
  · rw [hsz]
    obtain ⟨a, b, c, d⟩ := h.imm q hq
    exact ⟨a, b, c, by rw [hso] at d; exact d⟩

/-- The open ones from k on go. -/
theorem Mem.popOpen (h : Mem H n sp w s O pval sval nv I) {pb cap k : Nat} (hk : k ≤ s.m) (hp : pval = .slice (some ⟨pb, 0, none⟩) s.m cap) :
    Mem H n sp (w.setCell ⟨H + 10, 0, none⟩ (.slice (some ⟨pb, 0, none⟩) k cap)) { s with m := k } O (.slice (some ⟨pb, 0, none⟩) k cap) sval nv I ∧ Kept (fun b => b = H + 10) w (w.setCell ⟨H + 10, 0, none⟩ (.slice (some ⟨pb, 0, none⟩) k cap)) := by
  have kE : Kept (fun b => b = H + 10) w (w.setCell ⟨H + 10, 0, none⟩ (.slice (some ⟨pb, 0, none⟩) k cap)) := (Kept.refl (fun b => b = H + 10) w).setCell (.inl rfl) _
  have hpo : pval.ownBlock = some pb := by rw [hp]; rfl
  have hl := h.plt hpo
  have hI : ∀ q, I q → ¬ q = H + 10 := fun q hq e => by have := h.imm q hq; omega
  have hsz : (w.setCell ⟨H + 10, 0, none⟩ (.slice (some ⟨pb, 0, none⟩) k cap)).heap.size = w.heap.size := by simp [World.setCell]
  refine ⟨⟨kE.cell h.fv (by simp), kE.row h.fr (by omega), kE.cell h.lv (by simp), kE.row h.lr (by omega), kE.cell h.ov (by simp), kE.row h.or (by omega), kE.row h.cr (by omega), ?_, ?_, kE.row h.sr (by omega), kE.owns h.so (fun q hq hqs => by have := h.slt hq; omega), ?_, fun q hq => h.sep q (by rw [hpo]; exact hq), fun q hq => ?_⟩, kE⟩
  · exact (h.pr.set 0 _).congr (fun j hj => by simp; omega)
  · have h1 := h.po
    rw [hp] at h1
    have h2 := ownsRow_cut (k := k) hk rfl h1
    rw [Nat.mul_one, ← List.map_take, List.take_range, Nat.min_eq_left hk] at h2
    exact kE.owns h2 (fun q hq hqs => by have : pb = q := by simpa [Value.ownBlock] using hq
                                         omega)
  · intro i hi
    exact (h.nx i hi).kept (fun _ h => h) (fun q hq => kE.block q (h.imm q hq).2.1 (hI q hq))
  · rw [hsz]
    obtain ⟨a, b, c, d⟩ := h.imm q hq
    exact ⟨a, b, by rw [hpo] at c; exact c, d⟩

/-- What finish leaves of the memory. -/
theorem Mem.finished (h : Mem H n sp w s O pval sval nv I) {gN gB gA : Nat} {O' : Nat → Bool} {I' : Nat → Prop} (hP : Places H gN gB gA) (hk : Kept (Sf H gN gB gA) w w') (ho : w'.rowIs (H + 8) 4 n (fun i => .bool (O' i))) (hI : ∀ q, I q → I' q) (hI' : ∀ q, I' q → I q ∨ w.heap.size ≤ q) (hJ : ∀ q, I' q → H + 13 ≤ q ∧ q < w'.heap.size) :
    Mem H n sp w' s O' pval sval nv I' := by
  obtain ⟨p1, p2, p3, p4, p5, p6, p7, p8, p9⟩ := hP
  have hS : ∀ {x : Nat}, H + 4 ≤ x → x ≠ H + 8 → ¬ Sf H gN gB gA x := fun {x} h1 h2 h3 => by unfold Sf at h3; omega
  have hsz := hk.size
  refine ⟨hk.cell h.fv (hS (by simp) (by simp)), hk.row h.fr (hS (by omega) (by omega)), hk.cell h.lv (hS (by simp) (by simp)), hk.row h.lr (hS (by omega) (by omega)), hk.cell h.ov (hS (by simp) (by simp)), ho, hk.row h.cr (hS (by omega) (by omega)), hk.row h.pr (hS (by omega) (by omega)), hk.owns h.po (fun q hq => hS (by have := h.plt hq; omega) (by have := h.plt hq; omega)), hk.row h.sr (hS (by omega) (by omega)), hk.owns h.so (fun q hq => hS (by have := h.slt hq; omega) (by have := h.slt hq; omega)), ?_, h.sep, fun q hq => ?_⟩
  · intro i hi
    exact (h.nx i hi).kept hI (fun q hq => hk.block q (h.imm q hq).2.1 (hS (by have := h.imm q hq; omega) (by have := h.imm q hq; omega)))
  · have h1 := hJ q hq
    refine ⟨h1.1, h1.2, fun hq2 => ?_, fun hq2 => ?_⟩
    · rcases hI' q hq with h2 | h2
      · exact (h.imm q h2).2.2.1 hq2
      · have := h.plt hq2; omega
    · rcases hI' q hq with h2 | h2
      · exact (h.imm q h2).2.2.2 hq2
      · have := h.slt hq2; omega

/-! ### How much is left to do -/
theorem sumTo_congr {g g' : Nat → Nat} : ∀ (k : Nat), (∀ i, i < k → g i = g' i) → sumTo g k = sumTo g' k
  | 0, _ => rfl
  | k + 1, h => by
    show sumTo g k + g k = sumTo g' k + g' k
    rw [sumTo_congr k (fun i hi => h i (by omega)), h k (by omega)]

theorem sumTo_upd (g : Nat → Nat) (t x : Nat) : ∀ (k : Nat), t < k → sumTo (upd g t x) k + g t = sumTo g k + x
  | 0, h => absurd h (Nat.not_lt_zero _)
  | k + 1, h => by
    show sumTo (upd g t x) k + upd g t x k + g t = sumTo g k + g k + x
    by_cases e : t = k
    · subst e
      have e1 : sumTo (upd g t x) t = sumTo g t := sumTo_congr t (fun i hi => upd_other g x (show i ≠ t by omega))
      rw [upd_same, e1]
      omega
    · rw [upd_other _ _ (show k ≠ t by omega)]
      have := sumTo_upd g t x k (by omega)
      omega

def work (n : Nat) (deg : Nat → Nat) (s : St) : Nat := sumTo (fun v => if s.f v = 0 then deg v + 2 else 0) n + sumTo (fun i => (s.nx i).length + 1) s.d

theorem work_find {t : Nat} {L : List Nat} (ht : t < n) (hf : s.f t = 0) (hL : L.length = deg t) : work n deg (s.find t s.nx L) + 1 = work n deg s := by
  unfold work
  have h1 : sumTo (fun v => if (s.find t s.nx L).f v = 0 then deg v + 2 else 0) n = sumTo (upd (fun v => if s.f v = 0 then deg v + 2 else 0) t 0) n := sumTo_congr n (fun i hi => by
    show (if upd s.f t (s.c + 1) i = 0 then _ else _) = _
    by_cases e : i = t
    · rw [e, upd_same, upd_same, if_neg (by omega)]
    · rw [upd_other _ _ e, upd_other _ _ e])
  have h2 := sumTo_upd (fun v => if s.f v = 0 then deg v + 2 else 0) t 0 n ht
  simp only [hf, if_true] at h2
  have h3 : sumTo (fun i => ((s.find t s.nx L).nx i).length + 1) (s.find t s.nx L).d = sumTo (fun i => (s.nx i).length + 1) s.d + (deg t + 1) := by
    show sumTo (fun i => (upd s.nx s.d L i).length + 1) s.d + ((upd s.nx s.d L s.d).length + 1) = _
    rw [upd_same, hL, sumTo_congr s.d (fun i hi => by rw [upd_other _ _ (show i ≠ s.d by omega)])]
  rw [h1, h3]
  omega

theorem work_next {e : Nat} {rest : List Nat} {low : Nat → Nat} (he : s.d = e + 1) (hr : (s.nx e).length = rest.length + 1) : work n deg { s with low := low, nx := upd s.nx e rest } + 1 = work n deg s := by
  unfold work
  have h3 : sumTo (fun i => ((upd s.nx e rest) i).length + 1) s.d + 1 = sumTo (fun i => (s.nx i).length + 1) s.d := by
    rw [he]
    show sumTo (fun i => ((upd s.nx e rest) i).length + 1) e + ((upd s.nx e rest e).length + 1) + 1 = sumTo (fun i => (s.nx i).length + 1) e + ((s.nx e).length + 1)
    rw [upd_same, hr, sumTo_congr e (fun i hi => by rw [upd_other _ _ (show i ≠ e by omega)])]
    omega
  show sumTo (fun v => if s.f v = 0 then deg v + 2 else 0) n + sumTo (fun i => ((upd s.nx e rest) i).length + 1) s.d + 1 = _
  omega

theorem work_pop {e m fin : Nat} {low num lo hi : Nat → Nat} (he : s.d = e + 1) (hr : s.nx e = []) : work n deg { s with d := e, low := low, m := m, fin := fin, num := num, lo := lo, hi := hi } + 1 = work n deg s := by
  unfold work
  have h3 : sumTo (fun i => (s.nx i).length + 1) s.d = sumTo (fun i => (s.nx i).length + 1) e + ((s.nx e).length + 1) := by rw [he]; rfl
  rw [h3, hr]
  show sumTo (fun v => if s.f v = 0 then deg v + 2 else 0) n + sumTo (fun i => (s.nx i).length + 1) e + 1 = sumTo (fun v => if s.f v = 0 then deg v + 2 else 0) n + (sumTo (fun i => (s.nx i).length + 1) e + (0 + 1))
  omega

/-! ### Bounds -/
theorem Tj.Inv.op_ge {adj : Nat → List Nat} (h : Inv n adj s) : ∀ i, i < s.m → i + 1 ≤ s.f (s.op i)
  | 0, hi => by have := (h.opv 0 hi).2; omega
  | i + 1, hi => by
    have h1 := Tj.Inv.op_ge h i (by omega)
    have h2 := h.opm i (i + 1) (by omega) hi
    omega
theorem Tj.Inv.m_le {adj : Nat → List Nat} (h : Inv n adj s) : s.m ≤ s.c := by
  rcases Nat.eq_zero_or_pos s.m with e | e
  · omega
  · have h1 := Tj.Inv.op_ge h (s.m - 1) (by omega)
    have h2 := h.fc _ (h.opv (s.m - 1) (by omega)).1
    omega
theorem Tj.Inv.pa_ge {adj : Nat → List Nat} (h : Inv n adj s) : ∀ i, i < s.d → i + 1 ≤ s.f (s.pa i)
  | 0, hi => by have := (h.open_lt (h.pin 0 hi)).2; omega
  | i + 1, hi => by
    have h1 := Tj.Inv.pa_ge h i (by omega)
    have h2 := h.pm i (i + 1) (by omega) hi
    omega
theorem Tj.Inv.d_le {adj : Nat → List Nat} (h : Inv n adj s) : s.d ≤ s.c := by
  rcases Nat.eq_zero_or_pos s.d with e | e
  · omega
  · have h1 := Tj.Inv.pa_ge h (s.d - 1) (by omega)
    have h2 := h.fc _ (h.open_lt (h.pin (s.d - 1) (by omega))).1
    omega

theorem Tj.Inv.fin_le {adj : Nat → List Nat} (h : Inv n adj s) : s.fin ≤ n := by
  have hg : ∀ k, ∃ v, k < s.fin → (s.Done n v ∧ s.num v = k) := fun k => by
    by_cases hk : k < s.fin
    · obtain ⟨v, hv⟩ := h.d6 k hk
      exact ⟨v, fun _ => hv⟩
    · exact ⟨0, fun h3 => absurd h3 hk⟩
  refine pigeon n s.fin (fun k => Classical.choose (hg k)) (fun i hi => ?_) (fun i j hi hj e => ?_)
  · exact (Classical.choose_spec (hg i) hi).1.1
  · have a := (Classical.choose_spec (hg i) hi).2
    have b := (Classical.choose_spec (hg j) hj).2
    rw [← a, ← b]
    exact congrArg s.num e

theorem cnt_set {p q : Nat → Bool} (u : Nat) (hp : p u = true) (hq : q u = false) (ho : ∀ j, j ≠ u → q j = p j) : ∀ k, u < k → cnt q k + 1 = cnt p k
  | 0, h => absurd h (Nat.not_lt_zero _)
  | k + 1, h => by
    unfold cnt
    by_cases e : u = k
    · subst e
      rw [hp, hq, cnt_congr u (fun j hj => ho j (by omega))]
      simp
    · rw [ho k (by omega)]
      have := cnt_set u hp hq ho k (by omega)
      omega

/-- A part of a sum. -/
theorem sumTo_part (g : Nat → Nat) : ∀ (m : Nat) (S : Nat → Nat) (n : Nat), (∀ i, i < m → S i < n) → (∀ i j, i < m → j < m → S i = S j → i = j) → sumTo (fun i => g (S i)) m ≤ sumTo g n
  | 0, _, _, _, _ => Nat.zero_le _
  | m + 1, S, n, h1, h2 => by
    have ih := sumTo_part (upd g (S m) 0) m S n (fun i hi => h1 i (by omega)) (fun i j hi hj => h2 i j (by omega) (by omega))
    have e1 : sumTo (fun i => upd g (S m) 0 (S i)) m = sumTo (fun i => g (S i)) m := sumTo_congr m (fun i hi => upd_other _ _ (fun e => by have := h2 i m (by omega) (by omega) e; omega))
    have e2 := sumTo_upd g (S m) 0 n (h1 m (by omega))
    show sumTo (fun i => g (S i)) m + g (S m) ≤ _
    omega
end Go.Proofs.Qxb6613158a
