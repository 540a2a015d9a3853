/-
  HOW ZZnewImportReach LAYS THE FILES (2): the steps, at the worlds that the walk comes by.
-/
import Derived.Test.Qxb6613158aLay
import Derived.Test.Qxb6613158aImports
namespace Go.Proofs.Qxb6613158a
open Go.RowKit Tj
set_option linter.unusedSimpArgs false
set_option linter.unusedVariables false

variable {w w' : World} {H n m : Nat} {sp fp mp : Nat → Nat} {N : Nat → ByteArray} {deg : Nat → Nat} {ip A : Nat → Nat → Nat} {av : Nat → Value}

/-- At first: nothing is laid. -/
theorem Lay.zero (w : World) (n : Nat) (N : Nat → ByteArray) (A : Nat → Nat → Nat) : Lay (w.alloc (.cells (madeCells #[.pointer none] n) 42)) w.heap.size n 0 (fun _ => 0) (fun _ => 0) (fun _ => 0) N (fun _ => 0) (fun _ _ => 0) A (fun _ => .slice none 0 0) := by
  refine ⟨fun j hj => absurd hj (Nat.not_lt_zero _), fun j hj => absurd hj (Nat.not_lt_zero _), fun j hj => absurd hj (Nat.not_lt_zero _), ⟨fun j hj => absurd hj (Nat.not_lt_zero _), fun j k g hj => absurd hj (Nat.not_lt_zero _)⟩, fun j k hj => absurd hj (Nat.not_lt_zero _), fun i j hi => absurd hi (Nat.not_lt_zero _), fun i j hi => absurd hi (Nat.not_lt_zero _), fun i j hi => absurd hi (Nat.not_lt_zero _), fun i j k hi => absurd hi (Nat.not_lt_zero _), fun j k hj => absurd hj (Nat.not_lt_zero _), fun j hj => absurd hj (Nat.not_lt_zero _), ?_⟩
  exact (World.rowIs_made w (.pointer none) n 42).congr (fun j hj => by simp)

theorem rowIs_obj {w : World} {b : Nat} {c : Array Value} {t : TypeId} (h : w.heap[b]? = some (.cells c t (0, 0))) : w.rowIs b t c.size (fun i => c.getD i undef) :=
  ⟨c, h, rfl, fun i hi => by simp [hi]⟩

/-- Loop 1's round. -/
theorem Lay.laid {ip0 : Nat → Nat → Nat} (h : Lay w H n m sp fp mp N (fun _ => 0) ip0 A (fun _ => .slice none 0 0)) (hm : m < n) {W : World} (hk : Kept noS w W) {f g s : Nat} (hf : w.heap.size ≤ f) (hg : w.heap.size ≤ g) (hs : w.heap.size ≤ s)
    {cf cs : Array Value} (hF : W.heap[f]? = some (.cells cf 67 (0, 0))) (hf1 : cf.size = 15) (hf2 : cf.getD 0 undef = .string (N m)) (hf3 : cf.getD 7 undef = .slice none 0 0) (hG : W.heap[g]? = some (.map #[] 0))
    (hS : W.heap[s]? = some (.cells cs 70 (0, 0))) (hs1 : cs.size = 5) (hs2 : cs.getD 0 undef = .pointer (some ⟨f, 0, none⟩)) (hs3 : cs.getD 1 undef = .int .i64 (m : Nat)) (hs4 : cs.getD 2 undef = .string (N m)) (hs5 : cs.getD 4 undef = .map (some g)) :
    (∃ sp' fp' mp', Lay (W.setCell ⟨H, m, none⟩ (.pointer (some ⟨s, 0, none⟩))) H n (m + 1) sp' fp' mp' N (fun _ => 0) ip0 A (fun _ => .slice none 0 0)) ∧ Below H w (W.setCell ⟨H, m, none⟩ (.pointer (some ⟨s, 0, none⟩))) := by
  have hH : H < w.heap.size := h.lst.lt
  have kS : Kept (fun b => b = H) W (W.setCell ⟨H, m, none⟩ (.pointer (some ⟨s, 0, none⟩))) := (Kept.refl (fun b => b = H) W).setCell (.inl rfl) _
  have kA : Kept (fun b => b = H) w (W.setCell ⟨H, m, none⟩ (.pointer (some ⟨s, 0, none⟩))) := (hk.mono (fun x hx => hx.elim)).trans kS (fun x hx => .inl hx)
  have l1 : ∀ {b : Nat} {o : Obj}, w.heap.size ≤ b → W.heap[b]? = some o → (W.setCell ⟨H, m, none⟩ (.pointer (some ⟨s, 0, none⟩))).heap[b]? = some o := fun hb ho => (kS.block _ (heap_lt ho) (fun e => by omega)).trans ho
  refine ⟨⟨upd sp m s, upd fp m f, upd mp m g, h.one hm kA hf hg hs ?_ (l1 hg hG) ?_ ?_⟩, kA.below (by omega) (fun x hx => by omega)⟩
  · have := rowIs_obj (l1 hf hF)
    rw [hf1] at this
    exact ⟨_, this, hf2, hf3⟩
  · have := rowIs_obj (l1 hs hS)
    rw [hs1] at this
    exact ⟨_, this, hs2, hs3, hs4, hs5⟩
  · refine ((hk.row h.lst (fun h => h)).set m (.pointer (some ⟨s, 0, none⟩))).congr (fun j hj => ?_)
    by_cases e : j = m
    · subst e; simp [upd_same]
    · rw [if_neg e, upd_other _ _ e]
      by_cases e2 : j < m
      · rw [if_pos e2, if_pos (by omega)]
      · rw [if_neg e2, if_neg (by omega)]

/-- The append of a round. -/
theorem Lay.app (h : Lay w H n n sp fp mp N deg ip A av) {i : Nat} (hi : i < n) (hd : deg i ≤ 131072) {a : Option Addr} {c : Nat} (hav : av i = .slice a (deg i) c) {W : World} {q q' : Nat} (hk : Kept noS w W) (hc : W.heap[q']? = some (.cells #[.pointer (some ⟨q, 0, none⟩)] 71 (0, 0))) :
    ∃ g c' w3, (Builtin.append_ #[46, 46] 46 #[.slice a (deg i) c, .slice (some ⟨q', 0, none⟩) 1 1]).run Try.prog W = .ok (.slice (some ⟨g, 0, none⟩) (deg i + 1) c') w3 ∧ w3.ownsRow (H + 1) 71 1 (.slice (some ⟨g, 0, none⟩) (deg i + 1) c') (deg i + 1) (ptrs (ip i) (deg i) ++ [.pointer (some ⟨q, 0, none⟩)]) ∧ Kept (fun b => (av i).ownBlock = some b) W w3 ∧ ((av i).ownBlock = some g ∨ g = W.heap.size) := by
  obtain ⟨i0, hi0, hz0, hz1, hz2⟩ := info_parts info71
  have hH : H < w.heap.size := h.lst.lt
  have hz := hk.size
  have ho := hk.owns (h.rws.own i hi) (fun _ _ h => h)
  have hl : (ptrs (ip i) (deg i)).length = deg i := by simp [ptrs]
  rw [hl, hav] at ho
  obtain ⟨g, c', w3, h1, h2, h3, h4, h5⟩ := run_append_lies (P := Try.prog) W 46 46 (H + 1) 71 i0 (.pointer none) 1 8 Try.underlying46 hi0 hz0 hz1 hz2 rfl (by decide) _ (deg i) _ ho ⟨q', 0, none⟩ 1 1 [.pointer (some ⟨q, 0, none⟩)] rfl (World.news_of_block hc) (by simp [Value.oneCell']) (by omega) (by show deg i + 1 ≤ 9223372036854775807; omega) (by omega) (by omega) _ rfl
  refine ⟨g, c', w3, h1, h2, ?_, by rw [hav]; exact h4⟩
  rw [hav]
  exact (Kept.refl (fun b => (Value.slice a (deg i) c).ownBlock = some b) W).grown h3 (fun k hk => .inl hk)

/-- A round of loop 3, from the append on. -/
theorem Lay.fin (h : Lay w H n n sp fp mp N deg ip A av) {i : Nat} (hi : i < n) {t : Nat} (hA : A i (deg i) = t) (ht : t < n) {W w3 : World} {q g c' : Nat} (hk : Kept noS w W) (hq : w.heap.size ≤ q) (hI : ImpAt W q)
    (hown : w3.ownsRow (H + 1) 71 1 (.slice (some ⟨g, 0, none⟩) (deg i + 1) c') (deg i + 1) (ptrs (ip i) (deg i) ++ [.pointer (some ⟨q, 0, none⟩)])) (hk3 : Kept (fun b => (av i).ownBlock = some b) W w3) (hg : (av i).ownBlock = some g ∨ w.heap.size ≤ g) :
    FilAt w3 (fp i) (N i) (av i) ∧ w3.rowIs H 42 n (fun k => if k < n then .pointer (some ⟨sp k, 0, none⟩) else .pointer none) ∧ SrcAt w3 (sp i) (fp i) i (N i) (mp i) ∧
    (w3.setCell ⟨fp i, 7, none⟩ (.slice (some ⟨g, 0, none⟩) (deg i + 1) c')).rowIs H 42 n (fun k => if k < n then .pointer (some ⟨sp k, 0, none⟩) else .pointer none) ∧ SrcAt (w3.setCell ⟨fp i, 7, none⟩ (.slice (some ⟨g, 0, none⟩) (deg i + 1) c')) (sp i) (fp i) i (N i) (mp i) ∧
    ∃ w5, (Instr.mapUpdate 68 (.map (some (mp i))) (.pointer (some ⟨q, 0, none⟩)) (.pointer (some ⟨sp t, 0, none⟩))).run Try.prog (w3.setCell ⟨fp i, 7, none⟩ (.slice (some ⟨g, 0, none⟩) (deg i + 1) c')).drew = .ok () w5 ∧
      Lay w5 H n n sp fp mp N (upd deg i (deg i + 1)) (upd ip i (upd (ip i) (deg i) q)) A (upd av i (.slice (some ⟨g, 0, none⟩) (deg i + 1) c')) ∧ Below H w w5 := by
  have hH : H < w.heap.size := h.lst.lt
  have hz := hk.size
  have hz3 := hk3.size
  have k3 : Kept (fun b => (av i).ownBlock = some b) w w3 := (hk.mono (fun x hx => hx.elim)).trans hk3 (fun x hx => .inl hx)
  have kr : ∀ g, (av i).ownBlock = some g → H < g ∧ ∃ c, w.heap[g]? = some (.cells c 71 (0, 0)) := fun g hg => by
    have := own_block (h.rws.own i hi) hg
    exact ⟨by omega, this.2⟩
  have hne : ∀ {a b : Nat} {oa ob : Obj}, w.heap[a]? = some oa → w.heap[b]? = some ob → oa ≠ ob → a ≠ b := fun ha hb hne e => by
    subst e
    rw [ha] at hb
    injection hb with hb
    exact hne hb
  obtain ⟨cf, hcf⟩ : ∃ c, w.heap[fp i]? = some (.cells c 67 (0, 0)) := by obtain ⟨c, h1, _⟩ := h.fil i hi; exact row_obj h1
  obtain ⟨cs, hcs⟩ : ∃ c, w.heap[sp i]? = some (.cells c 70 (0, 0)) := by obtain ⟨c, h1, _⟩ := h.src i hi; exact row_obj h1
  have hcm := h.map i hi
  obtain ⟨cl, hcl⟩ := row_obj h.lst
  have nf : ¬ (av i).ownBlock = some (fp i) := fun e => by obtain ⟨_, c, hc⟩ := kr _ e; exact hne hc hcf (fun e => by injection e with _ e; cases e) rfl
  have ns : ¬ (av i).ownBlock = some (sp i) := fun e => by obtain ⟨_, c, hc⟩ := kr _ e; exact hne hc hcs (fun e => by injection e with _ e; cases e) rfl
  have nm : ¬ (av i).ownBlock = some (mp i) := fun e => by obtain ⟨_, c, hc⟩ := kr _ e; exact hne hc hcm (fun e => by cases e) rfl
  have nl : ¬ (av i).ownBlock = some H := fun e => by have := (kr _ e).1; omega
  have up := h.up i hi
  have hF3 := (h.fil i hi).kept k3 nf
  have hL3 := k3.row h.lst nl
  have hS3 := (h.src i hi).kept k3 ns
  have fsp : sp i ≠ fp i := hne hcs hcf (fun e => by injection e with _ e; cases e)
  have fmp : mp i ≠ fp i := hne hcm hcf (fun e => by cases e)
  have k4 : Kept (fun b => b = fp i) w3 (w3.setCell ⟨fp i, 7, none⟩ (.slice (some ⟨g, 0, none⟩) (deg i + 1) c')) := (Kept.refl (fun b => b = fp i) w3).setCell (.inl rfl) _
  have hF4 := hF3.set (.slice (some ⟨g, 0, none⟩) (deg i + 1) c')
  refine ⟨hF3, hL3, hS3, k4.row hL3 (by omega), hS3.kept k4 fsp, ?_⟩
  have kw4 : Kept (Sr fp mp av i) w (w3.setCell ⟨fp i, 7, none⟩ (.slice (some ⟨g, 0, none⟩) (deg i + 1) c')) := (k3.mono (fun x hx => .inl hx)).trans k4 (fun x hx => .inl (.inr (.inl hx)))
  have gown : g ≠ fp i := fun e => by
    subst e
    rcases hg with h1 | h1
    · exact nf h1
    · have := heap_lt hcf; omega
  have gown2 : g ≠ mp i := fun e => by
    subst e
    rcases hg with h1 | h1
    · exact nm h1
    · have := heap_lt hcm; omega
  have ho4 := k4.owns hown (fun k hk2 e => by simp only [Value.ownBlock, Option.some.injEq] at hk2; omega)
  obtain ⟨ci, hci⟩ := hI
  have hqW := heap_lt hci
  have hq3 : w3.heap[q]? = some (.cells ci 76 (0, 0)) := (hk3.block q hqW (fun e => by have := heap_lt (kr _ e).2.choose_spec; omega)).trans hci
  have hq4 : (w3.setCell ⟨fp i, 7, none⟩ (.slice (some ⟨g, 0, none⟩) (deg i + 1) c')).heap[q]? = some (.cells ci 76 (0, 0)) := (k4.block q (heap_lt hq3) (fun e => by have := heap_lt hcf; omega)).trans hq3
  have him : ∀ j, j < deg i → ImpAt (w3.setCell ⟨fp i, 7, none⟩ (.slice (some ⟨g, 0, none⟩) (deg i + 1) c')) (ip i j) ∧ ip i j < w.heap.size := fun j hj => by
    obtain ⟨c, hc⟩ := h.imp i j hi hj
    refine ⟨⟨c, (kw4.block _ (heap_lt hc) (fun e => ?_)).trans hc⟩, heap_lt hc⟩
    rcases e with e | e | e
    · obtain ⟨_, c2, hc2⟩ := kr _ e; exact hne hc2 hc (fun e => by injection e with _ e; cases e) rfl
    · exact hne hc hcf (fun e => by injection e with _ e; cases e) e
    · exact hne hc hcm (fun e => by cases e) e
  have hm4 : (w3.setCell ⟨fp i, 7, none⟩ (.slice (some ⟨g, 0, none⟩) (deg i + 1) c')).heap[mp i]? = some (.map (pEnts (upd (ip i) (deg i) q) (fun k => sp (A i k)) (deg i)).toArray (deg i)) := by
    rw [k4.block _ (by have := heap_lt hcm; omega) fmp, k3.block _ (heap_lt hcm) nm, hcm, pEnts_congr (p := ip i) (q := upd (ip i) (deg i) q) (fun k hk => (upd_other _ _ (by omega)).symm)]
  generalize w3.setCell ⟨fp i, 7, none⟩ (.slice (some ⟨g, 0, none⟩) (deg i + 1) c') = w4 at *
  have hrun := run_update_ptr w4.drew (mp i) (deg i) (upd (ip i) (deg i) q) (fun k => sp (A i k)) hm4 (fun j hj => by
    by_cases e : j = deg i
    · subst e; rw [upd_same]; exact ⟨ci, hq4⟩
    · rw [upd_other _ _ e]; exact (him j (by omega)).1) (fun j hj => by
    rw [upd_same, upd_other _ _ (by omega)]
    have := (him j hj).2
    omega)
  rw [upd_same] at hrun
  simp only [hA] at hrun
  refine ⟨_, hrun, ?_, ?_⟩
  · have k5 : Kept (fun b => b = mp i) w4 { w4.drew with heap := w4.drew.heap.setIfInBounds (mp i) (.map (pEnts (upd (ip i) (deg i) q) (fun k => sp (A i k)) (deg i + 1)).toArray (deg i + 1)) } := ⟨rfl, rfl, rfl, by simp, fun k hk2 hs => by
      show (w4.heap.setIfInBounds _ _)[k]? = _
      rw [Array.getElem?_setIfInBounds_ne (fun e => hs e.symm)]⟩
    have hmlt : mp i < w4.heap.size := heap_lt hm4
    refine h.next hi (by rw [hA]; exact ht) (kw4.trans k5 (fun x hx => .inl (.inr (.inr hx)))) (hF4.kept k5 (fun e => fmp e.symm)) ?_ (k5.owns ho4 (fun k hk2 e => by simp only [Value.ownBlock, Option.some.injEq] at hk2; omega)) (fun k hk2 => ?_) hq ⟨ci, (k5.block q (heap_lt hq4) (fun e => by have := heap_lt hcm; omega)).trans hq4⟩
    · show (w4.heap.setIfInBounds _ _)[_]? = _
      simp [hmlt]
    · have : g = k := by simpa [Value.ownBlock] using hk2
      subst this; exact hg
  · have k5 : Kept (fun b => b = mp i) w4 { w4.drew with heap := w4.drew.heap.setIfInBounds (mp i) (.map (pEnts (upd (ip i) (deg i) q) (fun k => sp (A i k)) (deg i + 1)).toArray (deg i + 1)) } := ⟨rfl, rfl, rfl, by simp, fun k hk2 hs => by
      show (w4.heap.setIfInBounds _ _)[k]? = _
      rw [Array.getElem?_setIfInBounds_ne (fun e => hs e.symm)]⟩
    refine (kw4.trans k5 (fun x hx => .inl (.inr (.inr hx)))).below (by omega) (fun x hx => ?_)
    rcases hx with hx | hx | hx
    · have := (kr _ hx).1; omega
    · omega
    · omega
end Go.Proofs.Qxb6613158a
